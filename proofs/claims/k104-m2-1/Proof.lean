import JvmDerived
import JvmDerived.Pilot.@@N@@Statement
import JvmDerived.Pilot.@@N@@Code
set_option linter.unusedVariables false
set_option linter.unusedSimpArgs false
namespace Jvm.Pilot.@@N@@
open Jvm Jvm.ClassFile Sem Op Lib Jvm.Free Jvm.Stand Jvm.LawKit Jvm.RoadKit Bundle Jvm.Pilot.@@N@@.Jvm.D
section OwnKit
variable {p : Program} {l : Launch} {e : Env} {R : Room} {s : State} {m : MethodId} {args : Array Value} {below : List Frame} {meth : Method} {c : Code} {T : State} {locs : List Loc} {cells slots : Nat} {Z : State} {a0 : Array Value} {h h' h0 : Heap}
/-- the rest of the body's run, from A on: it ends, and E holds there -/
def own_Go (p : Program) (e : Env) (below : List Frame) (E : Outcome → State → Prop) (A : State) : Prop :=
  ∃ s₂ o, Steps p.tables e below A s₂ ∧ s₂.status = .running ∧ Ended s₂ below o ∧ E o s₂
theorem own_go {E : Outcome → State → Prop} {A B : State} (k : ∀ t, Steps p.tables e below A t → Steps p.tables e below B t) (g : own_Go p e below E A) : own_Go p e below E B := by
  obtain ⟨s₂, o, h1, h2⟩ := g
  exact ⟨s₂, o, k _ h1, h2⟩
theorem own_goT {E : Outcome → State → Prop} {A B : State} (k : Steps p.tables e below B A) (g : own_Go p e below E A) : own_Go p e below E B := own_go (fun _ q => k.trans q) g
/-- what a body leaves -/
def own_Out (s : State) (Q : Option Value → Heap → List Loc → Prop) (C S : Nat) (o : Outcome) (U : State) : Prop :=
  ∃ v L, o = .returned v ∧ Q v U.heap L ∧ FrameEnd s o U L C S
/-- a body's contract: called with as' over the heap h0 it returns, and Q holds of what it returns, of the heap that it leaves and of the places that it wrote -/
def own_Con (l : Launch) (Z : State) (y : MethodName) (bytes : ByteArray) (maxL : Nat) (ret : Option FieldType) (rm : Room) (as' : Array Value) (h0 : Heap) (Q : Option Value → Heap → List Loc → Prop) (ws : List Jvm.Cond) : Prop :=
  MetFree l y (head1 (Jvm.Cond.code y bytes maxL ret :: ws) rm) (fun a U => a = as' ∧ Z.Warmed39 U.vm ∧ U.heap = h0) (fun _ _ _ _ _ => True) (fun _ U o U' => ∃ v L, o = .returned v ∧ Q v U'.heap L ∧ FrameEnd U o U' L rm.cells rm.slots)
theorem own_con {y : MethodName} {bytes : ByteArray} {maxL : Nat} {ret : Option FieldType} {rm : Room} {as' : Array Value} {Q : Option Value → Heap → List Loc → Prop} {ws : List Jvm.Cond} {F : MethodId → JFrame} (hpn : plainFor y = true) (hef : ∀ m, entryFrame m as' maxL = F m)
    (H : ∀ (p : Program) (e : Env) (s : State) (m : MethodId) (below : List Frame) (meth : Method) (c : Code) (T : State), Stand p l e rm s m as' below meth c T [] 0 0 → p.tables.exec = Jvm.exec → c.code = bytes → c.maxLocals = maxL → Z.Warmed39 s.vm → s.vm.findClass y.cls = some m.cls → meth.name = y.name →
      meth.sig.returnType = ret → meth.locks = false → T.heap = h0 → own_Go p e below (own_Out s Q rm.cells rm.slots) (T.setTop (F m))) :
    own_Con l Z y bytes maxL ret rm as' h0 Q ws := by
  refine MetFree.of_bodySF hpn hisR ?_
  intro p e s m args below meth c s₁ Bd hml0 hP hK
  obtain ⟨rfl, hZ, hh⟩ := hP
  have k := H p e s m below meth c s₁ (Stand.of_body Bd) Bd.exec Bd.bytes hml0 hZ (findClass_of_methodNamed Bd.named) (name_of_methodNamed Bd.named Bd.method).1 Bd.returns Bd.notSynchronized (by rw [← hh, Bd.state]; rfl)
  rw [← hef m] at k
  exact k
theorem own_Con.mono {y : MethodName} {bytes : ByteArray} {maxL : Nat} {ret : Option FieldType} {rm : Room} {as' : Array Value} {Q Q' : Option Value → Heap → List Loc → Prop} {ws : List Jvm.Cond} (H : own_Con l Z y bytes maxL ret rm as' h0 Q ws) (k : ∀ v h L, Q v h L → Q' v h L) : own_Con l Z y bytes maxL ret rm as' h0 Q' ws := by
  intro p e ha hc hk s m args below hf happ hP hK
  obtain ⟨n, o, g1, g2, g3, v, L, g4, g5, g6⟩ := H p e ha hc hk s m args below hf happ hP hK
  exact ⟨n, o, g1, g2, g3, v, L, g4, k _ _ _ g5, g6⟩
/-! leaving -/
theorem own_iret (X : Stand p l e R s m args below meth c T locs cells slots) (hx : p.tables.exec = Jvm.exec) (hlk : meth.locks = false) {t : FieldType} (hret : meth.sig.returnType = some t) (hti : t = .int ∨ t = .boolean ∨ t = .byte ∨ t = .char ∨ t = .short) {pc : Nat} {Ls : Array Slot} {z : Int32} (hn : narrow t (.int z) = .int z)
    (hd : decode c.code pc = .ok (.ireturn, 1)) {Q : Option Value → Heap → List Loc → Prop} {C S : Nat} (hC : cells ≤ C) (hS : slots ≤ S) (hq : Q (some (.int z)) T.heap locs) : own_Go p e below (own_Out s Q C S) (T.setTop (mkF m pc Ls [.int z])) := by
  obtain ⟨fs, hr, hrun, hended, hW, hsame⟩ := X.leave (v := some (.int z)) (fun h => by rw [hret] at h; cases h)
  exact ⟨_, _, X.ireturnOut hx hret hn hti hd hr, hrun, hended, _, _, rfl, hq, ⟨_, rfl⟩, hW, hsame.mono hC hS⟩
theorem own_lret (X : Stand p l e R s m args below meth c T locs cells slots) (hx : p.tables.exec = Jvm.exec) (hlk : meth.locks = false) (hret : meth.sig.returnType = some .long) {pc : Nat} {Ls : Array Slot} {z : Int64}
    (hd : decode c.code pc = .ok (.lreturn, 1)) {Q : Option Value → Heap → List Loc → Prop} {C S : Nat} (hC : cells ≤ C) (hS : slots ≤ S) (hq : Q (some (.long z)) T.heap locs) : own_Go p e below (own_Out s Q C S) (T.setTop (mkF m pc Ls [.long z])) := by
  obtain ⟨fs, hr, hrun, hended, hW, hsame⟩ := X.leave (v := some (.long z)) (fun h => by rw [hret] at h; cases h)
  exact ⟨_, _, X.lreturnOut hx hret hd hr, hrun, hended, _, _, rfl, hq, ⟨_, rfl⟩, hW, hsame.mono hC hS⟩
theorem own_aret (X : Stand p l e R s m args below meth c T locs cells slots) (hx : p.tables.exec = Jvm.exec) (hlk : meth.locks = false) {t : FieldType} (hret : meth.sig.returnType = some t) (ht : t.isReference = true) {pc : Nat} {Ls : Array Slot} {w : Value} (hw : w.isRef = true)
    (hd : decode c.code pc = .ok (.areturn, 1)) {Q : Option Value → Heap → List Loc → Prop} {C S : Nat} (hC : cells ≤ C) (hS : slots ≤ S) (hq : Q (some w) T.heap locs) : own_Go p e below (own_Out s Q C S) (T.setTop (mkF m pc Ls [w])) := by
  obtain ⟨fs, hr, hrun, hended, hW, hsame⟩ := X.leave (v := some w) (fun h => by rw [hret] at h; cases h)
  exact ⟨_, _, X.areturnOut hx hw hret ht hd hr, hrun, hended, _, _, rfl, hq, ⟨_, rfl⟩, hW, hsame.mono hC hS⟩
theorem own_vret (X : Stand p l e R s m args below meth c T locs cells slots) (hx : p.tables.exec = Jvm.exec) (hlk : meth.locks = false) (hret : meth.sig.returnType = none) {pc : Nat} {Ls : Array Slot}
    (hd : decode c.code pc = .ok (.return_, 1)) {Q : Option Value → Heap → List Loc → Prop} {C S : Nat} (hC : cells ≤ C) (hS : slots ≤ S) (hq : Q none T.heap locs) : own_Go p e below (own_Out s Q C S) (T.setTop (mkF m pc Ls [])) := by
  obtain ⟨fs, hr, hrun, hended, hW, hsame⟩ := X.leave (v := none) (fun _ => rfl)
  exact ⟨_, _, X.returnOut hx hret hd hr, hrun, hended, _, _, rfl, hq, ⟨_, rfl⟩, hW, hsame.mono hC hS⟩
/-! a body that leaves the heap alone -/
def own_PQ (h0 : Heap) (w : Value) (v : Option Value) (h : Heap) (L : List Loc) : Prop := v = some w ∧ h = h0 ∧ L = []
theorem own_iteI {C : Prop} [Decidable C] {a b : Int32} {k n : Nat} {A : State} (h1 : C → own_Go p e below (own_Out s (own_PQ h0 (.int a)) k n) A) (h2 : ¬ C → own_Go p e below (own_Out s (own_PQ h0 (.int b)) k n) A) : own_Go p e below (own_Out s (own_PQ h0 (.int (if C then a else b))) k n) A := by
  by_cases q : C
  · rw [if_pos q]; exact h1 q
  · rw [if_neg q]; exact h2 q
theorem own_iteL {C : Prop} [Decidable C] {a b : Int64} {k n : Nat} {A : State} (h1 : C → own_Go p e below (own_Out s (own_PQ h0 (.long a)) k n) A) (h2 : ¬ C → own_Go p e below (own_Out s (own_PQ h0 (.long b)) k n) A) : own_Go p e below (own_Out s (own_PQ h0 (.long (if C then a else b))) k n) A := by
  by_cases q : C
  · rw [if_pos q]; exact h1 q
  · rw [if_neg q]; exact h2 q
/-! calls -/
theorem own_callS (X : Stand p l e R s m args below meth c T locs cells slots) (hx : p.tables.exec = Jvm.exec) (hZ : Z.Warmed39 s.vm) {own : String} (hown : s.vm.findClass own = some m.cls) {index : Nat} {y : MethodName} {bytes : ByteArray} {maxL : Nat} {ret : Option FieldType} {rm : Room} {argsL rest : List Value} {Q : Option Value → Heap → List Loc → Prop}
    (hM : own_Con l Z y bytes maxL ret rm argsL.toArray h Q []) (eT : T.heap = h) (wl : (Jvm.Cond.methodLink own index y).before a0 Z = true) (wst : (Jvm.Cond.static y).before a0 Z = true) (wz : (Jvm.Cond.initialized y.cls).before a0 Z = true) (wc : (Jvm.Cond.code y bytes maxL ret).before a0 Z = true) (hy : y.cls ≠ "java/lang/invoke/MethodHandle" ∧ y.cls ≠ "java/lang/invoke/VarHandle")
    {sig : MethodDescriptor} (hpd : parseMethodDescriptor y.desc = some sig) (hlen : argsL.length = sig.parameters.length) {g : JFrame} (hg : g.method = m) (hsize : g.locals.size = c.maxLocals) (hstack : g.stack = argsL.reverse ++ rest) (W : Nat) (hW : 2 * g.monitorRoom + (rest.map fun v => v.category).sum ≤ W) (hdg : decode c.code g.pc = .ok (.invokestatic index, 3))
    (hf : rm.frames + 1 ≤ R.frames) (hl : W + (maxL + 11) + rm.locals ≤ R.locals) (hcs : cells + rm.cells ≤ R.cells) (hss : slots + rm.slots ≤ R.slots) :
    ∃ (v : Option Value) (T' : State) (L : List Loc), Stand p l e R s m args below meth c T' (locs ++ L) (cells + rm.cells) (slots + rm.slots) ∧ Q v T'.heap L ∧ ∀ t, Steps p.tables e below (T'.setTop { g with pc := g.pc + 3, stack := v.toList ++ rest }) t → Steps p.tables e below (T.setTop g) t := by
  obtain ⟨v, _, ⟨T', L', k', n'⟩, -, X', ⟨L, hQ, q1, q2, q3⟩, st⟩ := Jvm.LawKit.callS X hx hown (mvT hZ wl) (mvT hZ wst) (mvT hZ wz) (mvT hZ wc) hy (backOf (W := W) hM hZ wc wz hf hl) hg hsize (argsL := argsL) (rest := rest) (fun sg hsg => by rw [hpd] at hsg; cases hsg; exact hlen) hstack hW hdg (fun _ _ => ⟨rfl, eT, hcs, hss⟩)
  dsimp only [Pt.U, Pt.locs, Pt.cells, Pt.slots] at X' q1 q2 q3 st hQ
  subst q1 q2 q3
  exact ⟨v, T', L, X', hQ, st⟩
theorem own_callSP (X : Stand p l e R s m args below meth c T locs cells slots) (hx : p.tables.exec = Jvm.exec) (hZ : Z.Warmed39 s.vm) {own : String} (hown : s.vm.findClass own = some m.cls) {index : Nat} {y : MethodName} {bytes : ByteArray} {maxL : Nat} {ret : Option FieldType} {rm : Room} {argsL rest : List Value} {w : Value}
    (hM : own_Con l Z y bytes maxL ret rm argsL.toArray h (own_PQ h w) []) (eT : T.heap = h) (wl : (Jvm.Cond.methodLink own index y).before a0 Z = true) (wst : (Jvm.Cond.static y).before a0 Z = true) (wz : (Jvm.Cond.initialized y.cls).before a0 Z = true) (wc : (Jvm.Cond.code y bytes maxL ret).before a0 Z = true) (hy : y.cls ≠ "java/lang/invoke/MethodHandle" ∧ y.cls ≠ "java/lang/invoke/VarHandle")
    {sig : MethodDescriptor} (hpd : parseMethodDescriptor y.desc = some sig) (hlen : argsL.length = sig.parameters.length) {g : JFrame} (hg : g.method = m) (hsize : g.locals.size = c.maxLocals) (hstack : g.stack = argsL.reverse ++ rest) (W : Nat) (hW : 2 * g.monitorRoom + (rest.map fun v => v.category).sum ≤ W) (hdg : decode c.code g.pc = .ok (.invokestatic index, 3))
    (hf : rm.frames + 1 ≤ R.frames) (hl : W + (maxL + 11) + rm.locals ≤ R.locals) (hrc : rm.cells = 0) (hrs : rm.slots = 0) (hcs : cells ≤ R.cells) (hss : slots ≤ R.slots) :
    ∃ (T' : State), Stand p l e R s m args below meth c T' locs cells slots ∧ T'.heap = h ∧ ∀ t, Steps p.tables e below (T'.setTop { g with pc := g.pc + 3, stack := w :: rest }) t → Steps p.tables e below (T.setTop g) t := by
  obtain ⟨v, T', L, X', ⟨rfl, q2, rfl⟩, st⟩ := own_callS X hx hZ hown hM eT wl wst wz wc hy hpd hlen hg hsize hstack W hW hdg hf hl (by omega) (by omega)
  rw [List.append_nil, hrc, hrs] at X'
  exact ⟨T', X', q2, st⟩
theorem own_callI (X : Stand p l e R s m args below meth c T locs cells slots) (hx : p.tables.exec = Jvm.exec) (hZ : Z.Warmed39 s.vm) {own : String} (hown : s.vm.findClass own = some m.cls) {index : Nat} {y : MethodName} (hy1 : y.name = "<init>") {bytes : ByteArray} {maxL : Nat} {rm : Room} {b : Addr} {argsL rest : List Value} {Q : Option Value → Heap → List Loc → Prop}
    (hM : own_Con l Z y bytes maxL none rm (Value.ref b :: argsL).toArray h Q []) (eT : T.heap = h) (wl : (Jvm.Cond.methodLink own index y).before a0 Z = true) (wi : (Jvm.Cond.instanceMethod y).before a0 Z = true) (wz : (Jvm.Cond.initialized y.cls).before a0 Z = true) (wc : (Jvm.Cond.code y bytes maxL none).before a0 Z = true) (hy : y.cls ≠ "java/lang/invoke/MethodHandle" ∧ y.cls ≠ "java/lang/invoke/VarHandle")
    {sig : MethodDescriptor} (hpd : parseMethodDescriptor y.desc = some sig) (hlen : argsL.length = sig.parameters.length) {g : JFrame} (hg : g.method = m) (hsize : g.locals.size = c.maxLocals) (hstack : g.stack = argsL.reverse ++ .ref b :: rest) (W : Nat) (hW : 2 * g.monitorRoom + (rest.map fun v => v.category).sum ≤ W) (hdg : decode c.code g.pc = .ok (.invokespecial index, 3))
    (hf : rm.frames + 1 ≤ R.frames) (hl : W + (maxL + 11) + rm.locals ≤ R.locals) (hcs : cells + rm.cells ≤ R.cells) (hss : slots + rm.slots ≤ R.slots) :
    ∃ (v : Option Value) (T' : State) (L : List Loc), Stand p l e R s m args below meth c T' (locs ++ L) (cells + rm.cells) (slots + rm.slots) ∧ Q v T'.heap L ∧ ∀ t, Steps p.tables e below (T'.setTop { g with pc := g.pc + 3, stack := v.toList ++ rest }) t → Steps p.tables e below (T.setTop g) t := by
  obtain ⟨v, _, ⟨T', L', k', n'⟩, -, X', ⟨L, hQ, q1, q2, q3⟩, st⟩ := X.specialBack hx hy1 hown (mvT hZ wl) (mvT hZ wi) (mvT hZ wc) hy (backOf (W := W) hM hZ wc wz hf hl) hg hsize (Steps.refl _) (a := b) (argsL := argsL) (rest := rest) (fun sg hsg => by rw [hpd] at hsg; cases hsg; exact hlen) hstack hW hdg (fun _ _ => ⟨rfl, eT, hcs, hss⟩)
  dsimp only [Pt.U, Pt.locs, Pt.cells, Pt.slots] at X' q1 q2 q3 st hQ
  subst q1 q2 q3
  exact ⟨v, T', L, X', hQ, fun _ k => st.trans k⟩
theorem own_callV (X : Stand p l e R s m args below meth c T locs cells slots) (hx : p.tables.exec = Jvm.exec) (hZ : Z.Warmed39 s.vm) {own C : String} (hown : s.vm.findClass own = some m.cls) {index : Nat} {y z : MethodName} {bytes : ByteArray} {maxL : Nat} {ret : Option FieldType} {rm : Room} {b : Addr} {argsL rest : List Value} {Q : Option Value → Heap → List Loc → Prop}
    (hM : own_Con l Z z bytes maxL ret rm (Value.ref b :: argsL).toArray h Q []) (eT : T.heap = h) (hE : Exa Z h b C) (wl : (Jvm.Cond.methodLink own index y).before a0 Z = true) (wd : (Jvm.Cond.declares y).before a0 Z = true) (wsel : (Jvm.Cond.selects C y z).before a0 Z = true) (wi : (Jvm.Cond.instanceMethod z).before a0 Z = true) (wz : (Jvm.Cond.initialized z.cls).before a0 Z = true) (wc : (Jvm.Cond.code z bytes maxL ret).before a0 Z = true) (hnf : NotFace s y) (hy : y.cls ≠ "java/lang/invoke/MethodHandle" ∧ y.cls ≠ "java/lang/invoke/VarHandle")
    {sig : MethodDescriptor} (hpd : parseMethodDescriptor y.desc = some sig) (hlen : argsL.length = sig.parameters.length) {g : JFrame} (hg : g.method = m) (hsize : g.locals.size = c.maxLocals) (hstack : g.stack = argsL.reverse ++ .ref b :: rest) (W : Nat) (hW : 2 * g.monitorRoom + (rest.map fun v => v.category).sum ≤ W) (hdg : decode c.code g.pc = .ok (.invokevirtual index, 3))
    (hf : rm.frames + 1 ≤ R.frames) (hl : W + (maxL + 11) + rm.locals ≤ R.locals) (hcs : cells + rm.cells ≤ R.cells) (hss : slots + rm.slots ≤ R.slots) :
    ∃ (v : Option Value) (T' : State) (L : List Loc), Stand p l e R s m args below meth c T' (locs ++ L) (cells + rm.cells) (slots + rm.slots) ∧ Q v T'.heap L ∧ ∀ t, Steps p.tables e below (T'.setTop { g with pc := g.pc + 3, stack := v.toList ++ rest }) t → Steps p.tables e below (T.setTop g) t := by
  obtain ⟨cq, kq, qa, qb, qc⟩ := isOf hZ eT hE
  obtain ⟨v, _, ⟨T', L', k', n'⟩, -, X', ⟨L, hQ, q1, q2, q3⟩, st⟩ := X.virtualBack hx hown (mvT hZ wl) (mvT hZ wd) hnf (mvT hZ wsel) (mvT hZ wi) hy (backOf (W := W) hM hZ wc wz hf hl) qa qc hg hsize (Steps.refl _) (argsL := argsL) (rest := rest) (fun sg hsg => by rw [hpd] at hsg; cases hsg; exact hlen) hstack hW hdg (fun _ _ => ⟨rfl, eT, hcs, hss⟩)
  dsimp only [Pt.U, Pt.locs, Pt.cells, Pt.slots] at X' q1 q2 q3 st hQ
  subst q1 q2 q3
  exact ⟨v, T', L, X', hQ, fun _ k => st.trans k⟩
theorem own_callP (X : Stand p l e R s m args below meth c T locs cells slots) (hx : p.tables.exec = Jvm.exec) (hZ : Z.Warmed39 s.vm) {own C : String} (hown : s.vm.findClass own = some m.cls) {index kk : Nat} {y : MethodName} {bytes : ByteArray} {maxL : Nat} {ret : Option FieldType} {rm : Room} {b : Addr} {argsL rest : List Value} {Q : Option Value → Heap → List Loc → Prop}
    (hM : own_Con l Z y bytes maxL ret rm (Value.ref b :: argsL).toArray h Q []) (eT : T.heap = h) (hE : Exa Z h b C) (wl : (Jvm.Cond.methodLink own index y).before a0 Z = true) (wi : (Jvm.Cond.instanceMethod y).before a0 Z = true) (wp : (Jvm.Cond.privateMethod y).before a0 Z = true) (wn : (Jvm.Cond.instantiable y.cls kk).before a0 Z = true) (wz : (Jvm.Cond.initialized y.cls).before a0 Z = true) (wc : (Jvm.Cond.code y bytes maxL ret).before a0 Z = true) (hy : y.cls ≠ "java/lang/invoke/MethodHandle" ∧ y.cls ≠ "java/lang/invoke/VarHandle")
    {sig : MethodDescriptor} (hpd : parseMethodDescriptor y.desc = some sig) (hlen : argsL.length = sig.parameters.length) {g : JFrame} (hg : g.method = m) (hsize : g.locals.size = c.maxLocals) (hstack : g.stack = argsL.reverse ++ .ref b :: rest) (W : Nat) (hW : 2 * g.monitorRoom + (rest.map fun v => v.category).sum ≤ W) (hdg : decode c.code g.pc = .ok (.invokevirtual index, 3))
    (hf : rm.frames + 1 ≤ R.frames) (hl : W + (maxL + 11) + rm.locals ≤ R.locals) (hcs : cells + rm.cells ≤ R.cells) (hss : slots + rm.slots ≤ R.slots) :
    ∃ (v : Option Value) (T' : State) (L : List Loc), Stand p l e R s m args below meth c T' (locs ++ L) (cells + rm.cells) (slots + rm.slots) ∧ Q v T'.heap L ∧ ∀ t, Steps p.tables e below (T'.setTop { g with pc := g.pc + 3, stack := v.toList ++ rest }) t → Steps p.tables e below (T.setTop g) t := by
  obtain ⟨cq, q, q'⟩ := hE.cell
  have hp := Cond.privateMethod_at (mvP hZ wp (args := #[]))
  have hn : (Jvm.Cond.instantiable y.cls kk).before args s = true := mvT hZ wn
  obtain ⟨c2, k2, i1, i2, i3, i4, -⟩ := Cond.instantiable_spec hn
  have hsel : (Jvm.Cond.selects y.cls y y).before args s = true := selects_self_of_private i1 i2 (Bool.or_eq_false_iff.mp i4).1 hp (mvT hZ wi) hy
  obtain ⟨v, _, ⟨T', L', k', n'⟩, -, X', ⟨L, hQ, q1, q2, q3⟩, st⟩ := X.privateBack hx hown (mvT hZ wl) (mvT hZ wi) hsel hp (mvT hZ wc) hy (backOf (W := W) hM hZ wc wz hf hl) hg hsize (Steps.refl _) (a := b) (by rw [eT]; exact q) q' (argsL := argsL) (rest := rest) (fun sg hsg => by rw [hpd] at hsg; cases hsg; exact hlen) hstack hW hdg (fun _ _ => ⟨rfl, eT, hcs, hss⟩)
  dsimp only [Pt.U, Pt.locs, Pt.cells, Pt.slots] at X' q1 q2 q3 st hQ
  subst q1 q2 q3
  exact ⟨v, T', L, X', hQ, fun _ k => st.trans k⟩
theorem own_pn {y : MethodName} (hq : plainName y.cls = true) : plainFor y = true := plainFor_of_name hq
end OwnKit
section OwnArr
variable {p : Program} {l : Launch} {e : Env} {R : Room} {s : State} {m : MethodId} {args : Array Value} {below : List Frame} {meth : Method} {c : Code} {T : State} {locs : List Loc} {cells slots : Nat} {Z : State} {a0 : Array Value} {h h' h0 : Heap} {a b : Addr} {ty : FieldType} {vs : List Value} {v : Value} {i sl : Nat} {ws : List Addr}
/-- an array of ty's at a, its components vs -/
def own_AV (Z : State) (h : Heap) (a : Addr) (ty : FieldType) (vs : List Value) : Prop := ∃ c : Cell, Arr Z h a c ty ∧ c.slots.toList = vs ∧ vs.length < 2147483648 ∧ ∀ v ∈ vs, fits ty v = true
theorem own_AV.lt (A : own_AV Z h a ty vs) : a < h.size := by obtain ⟨c, q, -⟩ := A; exact q.lt
theorem own_AV.short (A : own_AV Z h a ty vs) : vs.length < 2147483648 := by obtain ⟨c, -, -, q, -⟩ := A; exact q
theorem own_AV.ext (A : own_AV Z h a ty vs) (E : Ext h h') : own_AV Z h' a ty vs := by obtain ⟨c, q, r⟩ := A; exact ⟨c, q.ext E, r⟩
theorem own_AV.other (A : own_AV Z h b ty vs) (W : Wr h h' a sl v) (q : b ≠ a) : own_AV Z h' b ty vs := by obtain ⟨c, k, r⟩ := A; exact ⟨c, k.other W q, r⟩
theorem own_AV.keep (A : own_AV Z h a ty vs) (K : Keep h h' ws) (q : a ∉ ws) : own_AV Z h' a ty vs := by obtain ⟨c, k, r⟩ := A; exact ⟨c, ⟨K.2.1 a c k.1 q, k.2⟩, r⟩
theorem own_AV.set (A : own_AV Z h a ty vs) (W : Wr h h' a i v) (hv : fits ty v = true) : own_AV Z h' a ty (vs.set i v) := by
  obtain ⟨c, k, r, z, f⟩ := A
  refine ⟨c.setSlot i v, k.same W, ?_, by rw [List.length_set]; exact z, fun u hu => ?_⟩
  · show (c.slots.setIfInBounds i v).toList = _
    rw [Array.toList_setIfInBounds, r]
  · rcases List.mem_or_eq_of_mem_set hu with q | q
    · exact f u q
    · rw [q]; exact hv
theorem own_idx {j : Int32} {i : Nat} (hj : j.toInt = i) : ¬ j < 0 ∧ j.toNatClampNeg = i := by
  refine ⟨?_, ?_⟩
  · rw [Int32.lt_iff_toInt_lt, hj]; show ¬ (i : Int) < 0; omega
  · simp only [Int32.toNatClampNeg, hj]; rfl
theorem own_AV_new {cA : ClassId} {n : Int32} {k : Nat} (A : Arr Z h a (newA cA ty n) ty) (hn : n.toInt = k) : own_AV Z h a ty (List.replicate k (defaultValue ty)) := by
  obtain ⟨q1, q2⟩ := own_idx hn
  refine ⟨_, A, ?_, ?_, fun v hv => ?_⟩
  · show (Array.replicate n.toNatClampNeg _).toList = _
    rw [q2, Array.toList_replicate]
  · rw [List.length_replicate]
    have := n.toInt_lt
    omega
  · rw [(List.mem_replicate.mp hv).2]; cases ty <;> rfl
theorem own_newA (X : Stand p l e R s m args below meth c T locs cells slots) (hx : p.tables.exec = Jvm.exec) (hZ : Z.Warmed39 s.vm) {aty : ArrayType} (w : (Jvm.Cond.arrayClass (newarray.typeOf aty)).before a0 Z = true) (eT : T.heap = h) {g : JFrame} (hg : g.method = m) (hd : decode c.code g.pc = .ok (.newarray aty, 2)) {n : Int32} {rest : List Value} (hs : g.stack = .int n :: rest)
    (k cap : Nat) (hn : n.toInt = k) (hk : k ≤ cap) (hb : cap * 8 ≤ 536870912) (hc : cells + 1 ≤ R.cells) (hl : slots + cap ≤ R.slots) :
    ∃ T' h', Stand p l e R s m args below meth c T' locs (cells + 1) (slots + cap) ∧ T'.heap = h' ∧ Ext h h' ∧ own_AV Z h' h.size (newarray.typeOf aty) (List.replicate k (defaultValue (newarray.typeOf aty))) ∧ ∀ t, Steps p.tables e below (T'.setTop { g with pc := g.pc + 2, stack := .ref h.size :: rest }) t → Steps p.tables e below (T.setTop g) t := by
  obtain ⟨q1, q2⟩ := own_idx hn
  obtain ⟨T', h', cA, X', e', E, A, st⟩ := newP X hx hZ w eT hg hd hs q1 (cap := cap) (by rw [q2]; exact hk) hb hc hl
  exact ⟨T', h', X', e', E, own_AV_new A hn, st⟩
theorem own_stI (X : Stand p l e R s m args below meth c T locs cells slots) (hx : p.tables.exec = Jvm.exec) (hZ : Z.Warmed39 s.vm) (eT : T.heap = h) (A : own_AV Z h a .int vs) {j x : Int32} {g : JFrame} (hg : g.method = m) {rest : List Value} (hs : g.stack = .int x :: .int j :: .ref a :: rest) (hd : decode c.code g.pc = .ok (.iastore, 1)) (i : Nat) (hj : j.toInt = i) (hi : i < vs.length) :
    ∃ T' h', Stand p l e R s m args below meth c T' (locs ++ [⟨a, i⟩]) cells slots ∧ T'.heap = h' ∧ Wr h h' a i (.int x) ∧ own_AV Z h' a .int (vs.set i (.int x)) ∧ ∀ t, Steps p.tables e below (T'.setTop { g with pc := g.pc + 1, stack := rest }) t → Steps p.tables e below (T.setTop g) t := by
  obtain ⟨q1, q2⟩ := own_idx hj
  have A' := A
  obtain ⟨cl, k, r, -, -⟩ := A
  have hz : cl.slots.size = vs.length := by rw [← r]; simp
  obtain ⟨T', h', X', e', W, st⟩ := stI X hx hZ eT k (j := j) (x := x) (by rw [q2, hz]; exact fun u => u.elim q1 (fun z => by omega)) hg hs hd
  rw [q2] at X' W
  exact ⟨T', h', X', e', W, A'.set W rfl, st⟩
theorem own_stJ (X : Stand p l e R s m args below meth c T locs cells slots) (hx : p.tables.exec = Jvm.exec) (hZ : Z.Warmed39 s.vm) (eT : T.heap = h) (A : own_AV Z h a .long vs) {j : Int32} {x : Int64} {g : JFrame} (hg : g.method = m) {rest : List Value} (hs : g.stack = .long x :: .int j :: .ref a :: rest) (hd : decode c.code g.pc = .ok (.lastore, 1)) (i : Nat) (hj : j.toInt = i) (hi : i < vs.length) :
    ∃ T' h', Stand p l e R s m args below meth c T' (locs ++ [⟨a, i⟩]) cells slots ∧ T'.heap = h' ∧ Wr h h' a i (.long x) ∧ own_AV Z h' a .long (vs.set i (.long x)) ∧ ∀ t, Steps p.tables e below (T'.setTop { g with pc := g.pc + 1, stack := rest }) t → Steps p.tables e below (T.setTop g) t := by
  obtain ⟨q1, q2⟩ := own_idx hj
  have A' := A
  obtain ⟨cl, k, r, -, -⟩ := A
  have hz : cl.slots.size = vs.length := by rw [← r]; simp
  obtain ⟨T', h', X', e', W, st⟩ := stJ X hx hZ eT k (j := j) (x := x) (by rw [q2, hz]; exact fun u => u.elim q1 (fun z => by omega)) hg hs hd
  rw [q2] at X' W
  exact ⟨T', h', X', e', W, A'.set W rfl, st⟩
theorem own_ldI (X : Stand p l e R s m args below meth c T locs cells slots) (hx : p.tables.exec = Jvm.exec) (hZ : Z.Warmed39 s.vm) (eT : T.heap = h) (A : own_AV Z h a .int vs) {j : Int32} {g : JFrame} (hg : g.method = m) {rest : List Value} (hs : g.stack = .int j :: .ref a :: rest) (hd : decode c.code g.pc = .ok (.iaload, 1)) (i : Nat) (hj : j.toInt = i) {x : Value} (hi : vs[i]? = some x) :
    ∀ t, Steps p.tables e below (T.setTop { g with pc := g.pc + 1, stack := x :: rest }) t → Steps p.tables e below (T.setTop g) t := by
  obtain ⟨q1, q2⟩ := own_idx hj
  obtain ⟨cl, k, r, -, -⟩ := A
  have hz : cl.slots.size = vs.length := by rw [← r]; simp
  have hv : cl.slots[i]? = some x := by rw [← Array.getElem?_toList, r]; exact hi
  have hl := (List.getElem?_eq_some_iff.mp hi).1
  exact X.iaload hx (by rw [eT]; exact k.1) (State.isArrayOf_alike hZ.alike k.2.1) k.2.2 (by rw [q2, hz]; exact fun u => u.elim q1 (fun z => by omega)) (by rw [q2]; exact hv) hg hs hd
theorem own_ldJ (X : Stand p l e R s m args below meth c T locs cells slots) (hx : p.tables.exec = Jvm.exec) (hZ : Z.Warmed39 s.vm) (eT : T.heap = h) (A : own_AV Z h a .long vs) {j : Int32} {g : JFrame} (hg : g.method = m) {rest : List Value} (hs : g.stack = .int j :: .ref a :: rest) (hd : decode c.code g.pc = .ok (.laload, 1)) (i : Nat) (hj : j.toInt = i) {x : Value} (hi : vs[i]? = some x) :
    ∀ t, Steps p.tables e below (T.setTop { g with pc := g.pc + 1, stack := x :: rest }) t → Steps p.tables e below (T.setTop g) t := by
  obtain ⟨q1, q2⟩ := own_idx hj
  obtain ⟨cl, k, r, -, -⟩ := A
  have hz : cl.slots.size = vs.length := by rw [← r]; simp
  have hv : cl.slots[i]? = some x := by rw [← Array.getElem?_toList, r]; exact hi
  have hl := (List.getElem?_eq_some_iff.mp hi).1
  exact X.laload hx (by rw [eT]; exact k.1) (State.isArrayOf_alike hZ.alike k.2.1) k.2.2 (by rw [q2, hz]; exact fun u => u.elim q1 (fun z => by omega)) (by rw [q2]; exact hv) hg hs hd
theorem own_len (X : Stand p l e R s m args below meth c T locs cells slots) (hx : p.tables.exec = Jvm.exec) (hZ : Z.Warmed39 s.vm) (eT : T.heap = h) (A : own_AV Z h a ty vs) {g : JFrame} (hg : g.method = m) {rest : List Value} (hs : g.stack = .ref a :: rest) (hd : decode c.code g.pc = .ok (.arraylength, 1)) (n : Int32) (hn : n.toInt = vs.length) :
    ∀ t, Steps p.tables e below (T.setTop { g with pc := g.pc + 1, stack := .int n :: rest }) t → Steps p.tables e below (T.setTop g) t := by
  obtain ⟨cl, k, r, z, -⟩ := A
  have hz : cl.slots.size = vs.length := by rw [← r]; simp
  have en : cl.slots.size.toInt32 = n := Int32.toInt_inj.mp (by rw [hn, hz]; exact len_toInt z)
  intro t q
  refine X.arraylength hx (by rw [eT]; exact k.1) (State.isArrayOf_alike hZ.alike k.2.1) hg hs hd t ?_
  rw [en]; exact q
theorem own_newAE (X : Stand p l e R s m args below meth c T locs cells slots) (hx : p.tables.exec = Jvm.exec) (hZ : Z.Warmed39 s.vm) {aty : ArrayType} (w : (Jvm.Cond.arrayClass (newarray.typeOf aty)).before a0 Z = true) (eT : T.heap = h) {g : JFrame} (hg : g.method = m) (hd : decode c.code g.pc = .ok (.newarray aty, 2)) {n : Int32} {rest : List Value} (hs : g.stack = .int n :: rest)
    (k cap : Nat) (hn : n.toInt = k) (hk : k ≤ cap) (hb : cap * 8 ≤ 536870912) (hc : cells + 1 ≤ R.cells) (hl : slots + cap ≤ R.slots) {ad : String} (had : "[" ++ (newarray.typeOf aty).toString = ad) :
    ∃ T' h', Stand p l e R s m args below meth c T' locs (cells + 1) (slots + cap) ∧ T'.heap = h' ∧ Ext h h' ∧ own_AV Z h' h.size (newarray.typeOf aty) (List.replicate k (defaultValue (newarray.typeOf aty))) ∧ Exa Z h' h.size ad ∧ ∀ t, Steps p.tables e below (T'.setTop { g with pc := g.pc + 2, stack := .ref h.size :: rest }) t → Steps p.tables e below (T.setTop g) t := by
  obtain ⟨q1, q2⟩ := own_idx hn
  obtain ⟨T', h', cA, X', e', E, A, C, st⟩ := newPE X hx hZ w eT hg hd hs q1 (cap := cap) (by rw [q2]; exact hk) hb hc hl had
  exact ⟨T', h', X', e', E, own_AV_new A hn, C, st⟩
theorem own_AV.arv (A : own_AV Z h a ty vs) {z : Int32} (hz : z.toInt = vs.length) (dv : Value) : ∃ k, Arv Z h a k ty z vs dv := by
  obtain ⟨q1, q2⟩ := own_idx hz
  obtain ⟨cl, k, r, -, f⟩ := A
  have hs : cl.slots.size = vs.length := by rw [← r]; simp
  refine ⟨cl.cls, cl, k, rfl, by rw [hs, q2], q1, fun i hi => ?_, fun i hi => ?_⟩
  · rw [← Array.getElem?_toList, r, List.getD_eq_getElem?_getD, List.getElem?_eq_getElem (by omega)]; rfl
  · rw [List.getD_eq_getElem?_getD, List.getElem?_eq_getElem (by omega)]; exact f _ (List.getElem_mem _)
theorem own_arv {k : ClassId} {z : Int32} {dv : Value} (F : Arv Z h a k ty z vs dv) (hl : vs.length = z.toNatClampNeg) : own_AV Z h a ty vs := by
  obtain ⟨cl, A, -, S, q, H, G⟩ := F
  have hs : cl.slots.size = vs.length := by rw [S, hl]
  have e1 : cl.slots.toList = vs := by
    apply List.ext_getElem?
    intro i
    by_cases hi : i < vs.length
    · have := H i (by omega)
      rw [Array.getElem?_toList, this, List.getD_eq_getElem?_getD, List.getElem?_eq_getElem hi]; rfl
    · rw [List.getElem?_eq_none (l := vs) (by omega), List.getElem?_eq_none (l := cl.slots.toList) (by rw [Array.length_toList]; omega)]
  refine ⟨cl, A, e1, ?_, fun v hv => ?_⟩
  · have := z.toInt_lt
    rw [hl]; simp only [Int32.toNatClampNeg]; omega
  · obtain ⟨i, hi, rfl⟩ := List.getElem_of_mem hv
    have := G i (by omega)
    rw [List.getD_eq_getElem?_getD, List.getElem?_eq_getElem hi] at this
    exact this
theorem own_copy (X : Stand p l e R s m args below meth c T locs cells slots) (hx : p.tables.exec = Jvm.exec) (hZ : Z.Warmed39 s.vm) {own : String} {index : Nat} (hown : s.vm.findClass own = some m.cls)
    (w1 : (Jvm.Cond.methodLink own index Jvm.Stand.acN).before a0 Z = true) (w2 : (Jvm.Cond.native Jvm.Stand.acN).before a0 Z = true) (w3 : (Jvm.Cond.static Jvm.Stand.acN).before a0 Z = true) (w4 : (Jvm.Cond.initialized "java/lang/System").before a0 Z = true) (eT : T.heap = h)
    {us : List Value} (A : own_AV Z h a ty vs) (B : own_AV Z h b ty us) (hp : refKind ty = false) {sp dp nn : Int32} {g : JFrame} (hg : g.method = m) (hsize : g.locals.size = c.maxLocals) {rest : List Value} (hs : g.stack = .int nn :: .int dp :: .ref b :: .int sp :: .ref a :: rest) (hd : decode c.code g.pc = .ok (.invokestatic index, 3))
    (i j n : Nat) (hsp : sp.toInt = i) (hdp : dp.toInt = j) (hn : nn.toInt = n) (h4 : i + n ≤ vs.length) (h5 : j + n ≤ us.length) {n0 : Nat} (N : Fr n0 locs) (ge : n0 ≤ b)
    (W : Nat) (hW : 2 * g.monitorRoom + (rest.map fun v => v.category).sum ≤ W) (hf : 1 ≤ R.frames) (hlo : W + (nativeFrameWords "java/lang/System" "arraycopy" 5 + 11) ≤ R.locals) :
    ∃ T' h' L, Stand p l e R s m args below meth c T' L cells slots ∧ T'.heap = h' ∧ Fr n0 L ∧ Keep h h' [b] ∧ own_AV Z h' b ty (us.take j ++ (vs.drop i).take n ++ us.drop (j + n)) ∧
      ∀ t, Steps p.tables e below (T'.setTop { g with pc := g.pc + 3, stack := rest }) t → Steps p.tables e below (T.setTop g) t := by
  obtain ⟨s1, s2⟩ := own_idx hsp
  obtain ⟨d1, d2⟩ := own_idx hdp
  obtain ⟨n1, n2⟩ := own_idx hn
  have zA := len_toInt A.short
  have zB := len_toInt B.short
  obtain ⟨kA, FA⟩ := A.arv zA .null
  obtain ⟨kB, FB⟩ := B.arv zB .null
  have cA : vs.length.toInt32.toNatClampNeg = vs.length := (own_idx zA).2
  have cB : us.length.toInt32.toNatClampNeg = us.length := (own_idx zB).2
  have hus : (vs.drop i).take n = (List.range nn.toNatClampNeg).map fun q => vs.getD (sp.toNatClampNeg + q) .null := by
    rw [n2, s2]
    apply List.ext_getElem?
    intro q
    by_cases hq : q < n
    · rw [List.getElem?_take_of_lt hq, List.getElem?_drop, List.getElem?_map, List.getElem?_range hq, List.getElem?_eq_getElem (by omega)]
      show some _ = some (vs.getD (i + q) .null)
      rw [List.getD_eq_getElem?_getD, List.getElem?_eq_getElem (by omega)]; rfl
    · rw [List.getElem?_eq_none (by rw [List.length_take]; omega), List.getElem?_eq_none (by simp; omega)]
  obtain ⟨T', h', L, X', e', NL, K, F', st⟩ := cpA X hx hZ hown w1 w2 w3 w4 eT FA FB (Or.inl ⟨rfl, hp⟩) s1 d1 n1 (by rw [s2, n2, cA]; exact h4) (by rw [d2, n2, cB]; exact h5) hus (by rw [d2, n2]; exact h5) N ge hg hsize hs hd hf hW hlo
  rw [d2, n2] at F'
  exact ⟨T', h', L, X', e', NL, K, own_arv F' (by rw [cB]; simp only [List.length_append, List.length_take, List.length_drop]; omega), st⟩
theorem own_clone (X : Stand p l e R s m args below meth c T locs cells slots) (hx : p.tables.exec = Jvm.exec) (hZ : Z.Warmed39 s.vm) {own ad : String} {index : Nat} (hown : s.vm.findClass own = some m.cls)
    (w1 : (Jvm.Cond.methodLink own index ⟨ad, "clone", "()Ljava/lang/Object;"⟩).before a0 Z = true) (w2 : (Jvm.Cond.sameMethod ad "java/lang/Object" "clone" "()Ljava/lang/Object;").before a0 Z = true) (w3 : (Jvm.Cond.native ⟨"java/lang/Object", "clone", "()Ljava/lang/Object;"⟩).before a0 Z = true)
    (w4 : (Jvm.Cond.instanceMethod ⟨"java/lang/Object", "clone", "()Ljava/lang/Object;"⟩).before a0 Z = true) (w5 : (Jvm.Cond.selects ad ⟨ad, "clone", "()Ljava/lang/Object;"⟩ ⟨"java/lang/Object", "clone", "()Ljava/lang/Object;"⟩).before a0 Z = true) (w6 : (Jvm.Cond.castable ad "java/lang/Cloneable").before a0 Z = true)
    (eT : T.heap = h) (A : own_AV Z h a ty vs) (E : Exa Z h a ad) {g : JFrame} (hg : g.method = m) (hsize : g.locals.size = c.maxLocals) {rest : List Value} (hs : g.stack = .ref a :: rest) (hd : decode c.code g.pc = .ok (.invokevirtual index, 3))
    (W cap : Nat) (hW : 2 * g.monitorRoom + (rest.map fun v => v.category).sum ≤ W) (hf : 1 ≤ R.frames) (hl : W + 14 ≤ R.locals) (hcap : vs.length ≤ cap) (hc : cells + 1 ≤ R.cells) (hsl : slots + cap ≤ R.slots) :
    ∃ T' h', Stand p l e R s m args below meth c T' locs (cells + 1) (slots + cap) ∧ T'.heap = h' ∧ Ext h h' ∧ own_AV Z h' h.size ty vs ∧ Exa Z h' h.size ad ∧
      ∀ t, Steps p.tables e below (T'.setTop { g with pc := g.pc + 3, stack := .ref h.size :: rest }) t → Steps p.tables e below (T.setTop g) t := by
  obtain ⟨cl, k, r, z, f⟩ := A
  have hz : cl.slots.size = vs.length := by rw [← r]; simp
  have FC : FitC Z cl := fitC_of k fun i hi v hv => f v (by rw [← r]; exact List.mem_of_getElem? (i := i) (by rw [Array.getElem?_toList]; exact hv))
  obtain ⟨T', h', X', e', E', A', C', st⟩ := cloneA X hx hZ hown w1 w2 w3 w4 w5 w6 eT k E FC hg hsize hs hd hf (W := W) hW hl (cap := cap) (by omega) hc hsl
  exact ⟨T', h', X', e', E', ⟨_, A', r, z, f⟩, C', st⟩
end OwnArr
theorem d1_0 : decode method_2_code 0 = .ok (.lload_n 0, 1) := by decide +kernel
theorem d1_1 : decode method_2_code 1 = .ok (.ldc2_w 7, 3) := by decide +kernel
theorem d1_4 : decode method_2_code 4 = .ok (.land, 1) := by decide +kernel
theorem d1_5 : decode method_2_code 5 = .ok (.lstore 4, 2) := by decide +kernel
theorem d1_7 : decode method_2_code 7 = .ok (.lload 4, 2) := by decide +kernel
theorem d1_9 : decode method_2_code 9 = .ok (.lconst 0, 1) := by decide +kernel
theorem d1_10 : decode method_2_code 10 = .ok (.lcmp, 1) := by decide +kernel
theorem d1_11 : decode method_2_code 11 = .ok (.ifCond .ne 5, 3) := by decide +kernel
theorem d1_14 : decode method_2_code 14 = .ok (.lconst 0, 1) := by decide +kernel
theorem d1_15 : decode method_2_code 15 = .ok (.lreturn, 1) := by decide +kernel
theorem d1_16 : decode method_2_code 16 = .ok (.lload 4, 2) := by decide +kernel
theorem d1_18 : decode method_2_code 18 = .ok (.lconst 1, 1) := by decide +kernel
theorem d1_19 : decode method_2_code 19 = .ok (.lcmp, 1) := by decide +kernel
theorem d1_20 : decode method_2_code 20 = .ok (.ifCond .ne 5, 3) := by decide +kernel
theorem d1_23 : decode method_2_code 23 = .ok (.lload_n 2, 1) := by decide +kernel
theorem d1_24 : decode method_2_code 24 = .ok (.lreturn, 1) := by decide +kernel
theorem d1_25 : decode method_2_code 25 = .ok (.lload_n 0, 1) := by decide +kernel
theorem d1_26 : decode method_2_code 26 = .ok (.lreturn, 1) := by decide +kernel
def own_pick (x0 : Int64) (x1 : Int64) : Int64 := (if (x0 &&& (3 : Int64)) = (0 : Int64) then (0 : Int64) else (if (x0 &&& (3 : Int64)) = (1 : Int64) then x1 else x0))
set_option maxRecDepth 65536 in
set_option maxHeartbeats 40000000 in
theorem own_pick_con (l : Launch) (Z : State) (a0 : Array Value) (hw : ∀ d ∈ tables_1, d.before a0 Z = true) (x0 : Int64) (x1 : Int64)  (h0 : Heap) (ws : List Jvm.Cond) :
    own_Con l Z (⟨"tidemark/io/RunsAgreePinLaw", "pick", "(JJ)J"⟩ : MethodName) method_2_code 6 (some .long) ({ frames := 0, cells := 0, slots := 0, locals := 0 } : Room) #[(.long x0), (.long x1)] h0 (own_PQ h0 (.long (own_pick x0 x1))) ws := by
  refine own_con (F := fun m => (mkF m 0 #[.val (.long x0), .second, .val (.long x1), .second, .unset, .unset] [])) (own_pn (by first | (simp [plainName, overriddenIn]; done) | decide +kernel)) (fun m => by first | (simp [entryFrame, mkF, argsToLocals, Value.category]; done) | rfl) ?_
  intro p e s m below meth c T X hx hby hml hZ hown hnm hret hlk eT
  show own_Go p e below (own_Out s (own_PQ h0 (.long (own_pick x0 x1))) 0 0) (T.setTop (mkF m 0 #[.val (.long x0), .second, .val (.long x1), .second, .unset, .unset] []))
  show own_Go p e below (own_Out s (own_PQ h0 (.long (if (x0 &&& (3 : Int64)) = (0 : Int64) then (0 : Int64) else (if (x0 &&& (3 : Int64)) = (1 : Int64) then x1 else x0)))) 0 0) _
  refine own_go (fun _ => XT.lloadN X.here hx rfl (hb hby d1_0) rfl) ?_
  show own_Go p e below _ (T.setTop (mkF m 1 #[.val (.long x0), .second, .val (.long x1), .second, .unset, .unset] [(.long x0)]))
  refine own_go (X.ldc2Long hx hown (mvT hZ (hw _ (List.mem_of_getElem? (i := 6) rfl))) (g := (mkF m 1 #[.val (.long x0), .second, .val (.long x1), .second, .unset, .unset] [(.long x0)])) rfl (hb hby d1_1)) ?_
  show own_Go p e below _ (T.setTop (mkF m 4 #[.val (.long x0), .second, .val (.long x1), .second, .unset, .unset] [(.long (3 : Int64)), (.long x0)]))
  refine own_go (fun _ => XT.land X.here hx rfl (hb hby d1_4) rfl) ?_
  show own_Go p e below _ (T.setTop (mkF m 5 #[.val (.long x0), .second, .val (.long x1), .second, .unset, .unset] [(.long (x0 &&& (3 : Int64)))]))
  refine own_go (fun _ => XT.lstore X.here hx rfl (hb hby d1_5) rfl (l' := #[.val (.long x0), .second, .val (.long x1), .second, .val (.long (x0 &&& (3 : Int64))), .second]) rfl) ?_
  show own_Go p e below _ (T.setTop (mkF m 7 #[.val (.long x0), .second, .val (.long x1), .second, .val (.long (x0 &&& (3 : Int64))), .second] []))
  refine own_go (fun _ => XT.lload X.here hx rfl (hb hby d1_7) rfl) ?_
  show own_Go p e below _ (T.setTop (mkF m 9 #[.val (.long x0), .second, .val (.long x1), .second, .val (.long (x0 &&& (3 : Int64))), .second] [(.long (x0 &&& (3 : Int64)))]))
  refine own_go (fun _ => XT.lconst X.here hx rfl (hb hby d1_9)) ?_
  show own_Go p e below _ (T.setTop (mkF m 10 #[.val (.long x0), .second, .val (.long x1), .second, .val (.long (x0 &&& (3 : Int64))), .second] [(.long (0 : Int64)), (.long (x0 &&& (3 : Int64)))]))
  refine own_go (fun _ => XT.lcmp X.here hx rfl (hb hby d1_10) rfl) ?_
  show own_Go p e below _ (T.setTop (mkF m 11 #[.val (.long x0), .second, .val (.long x1), .second, .val (.long (x0 &&& (3 : Int64))), .second] [(.int (XT.cmpL (x0 &&& (3 : Int64)) (0 : Int64)))]))
  refine own_iteL (fun hc11 => ?_) (fun hc11 => ?_)
  · skip
    refine own_go (fun _ => XS.ifNo X.here hx rfl (hb hby d1_11) rfl (XT.ll_ne_f hc11)) ?_
    show own_Go p e below _ (T.setTop (mkF m 14 #[.val (.long x0), .second, .val (.long x1), .second, .val (.long (x0 &&& (3 : Int64))), .second] []))
    refine own_go (fun _ => XT.lconst X.here hx rfl (hb hby d1_14)) ?_
    show own_Go p e below _ (T.setTop (mkF m 15 #[.val (.long x0), .second, .val (.long x1), .second, .val (.long (x0 &&& (3 : Int64))), .second] [(.long (0 : Int64))]))
    exact own_lret X hx hlk hret (hb hby d1_15) (Nat.zero_le _) (Nat.zero_le _) ⟨rfl, eT, rfl⟩
  · skip
    refine own_go (fun _ => XS.ifYes X.here hx rfl (pc0 := 11) (pc' := 16) rfl (hb hby d1_11) rfl (XT.ll_ne_t hc11) (by decide) (by decide)) ?_
    show own_Go p e below _ (T.setTop (mkF m 16 #[.val (.long x0), .second, .val (.long x1), .second, .val (.long (x0 &&& (3 : Int64))), .second] []))
    refine own_go (fun _ => XT.lload X.here hx rfl (hb hby d1_16) rfl) ?_
    show own_Go p e below _ (T.setTop (mkF m 18 #[.val (.long x0), .second, .val (.long x1), .second, .val (.long (x0 &&& (3 : Int64))), .second] [(.long (x0 &&& (3 : Int64)))]))
    refine own_go (fun _ => XT.lconst X.here hx rfl (hb hby d1_18)) ?_
    show own_Go p e below _ (T.setTop (mkF m 19 #[.val (.long x0), .second, .val (.long x1), .second, .val (.long (x0 &&& (3 : Int64))), .second] [(.long (1 : Int64)), (.long (x0 &&& (3 : Int64)))]))
    refine own_go (fun _ => XT.lcmp X.here hx rfl (hb hby d1_19) rfl) ?_
    show own_Go p e below _ (T.setTop (mkF m 20 #[.val (.long x0), .second, .val (.long x1), .second, .val (.long (x0 &&& (3 : Int64))), .second] [(.int (XT.cmpL (x0 &&& (3 : Int64)) (1 : Int64)))]))
    refine own_iteL (fun hc20 => ?_) (fun hc20 => ?_)
    · skip
      refine own_go (fun _ => XS.ifNo X.here hx rfl (hb hby d1_20) rfl (XT.ll_ne_f hc20)) ?_
      show own_Go p e below _ (T.setTop (mkF m 23 #[.val (.long x0), .second, .val (.long x1), .second, .val (.long (x0 &&& (3 : Int64))), .second] []))
      refine own_go (fun _ => XT.lloadN X.here hx rfl (hb hby d1_23) rfl) ?_
      show own_Go p e below _ (T.setTop (mkF m 24 #[.val (.long x0), .second, .val (.long x1), .second, .val (.long (x0 &&& (3 : Int64))), .second] [(.long x1)]))
      exact own_lret X hx hlk hret (hb hby d1_24) (Nat.zero_le _) (Nat.zero_le _) ⟨rfl, eT, rfl⟩
    · skip
      refine own_go (fun _ => XS.ifYes X.here hx rfl (pc0 := 20) (pc' := 25) rfl (hb hby d1_20) rfl (XT.ll_ne_t hc20) (by decide) (by decide)) ?_
      show own_Go p e below _ (T.setTop (mkF m 25 #[.val (.long x0), .second, .val (.long x1), .second, .val (.long (x0 &&& (3 : Int64))), .second] []))
      refine own_go (fun _ => XT.lloadN X.here hx rfl (hb hby d1_25) rfl) ?_
      show own_Go p e below _ (T.setTop (mkF m 26 #[.val (.long x0), .second, .val (.long x1), .second, .val (.long (x0 &&& (3 : Int64))), .second] [(.long x0)]))
      exact own_lret X hx hlk hret (hb hby d1_26) (Nat.zero_le _) (Nat.zero_le _) ⟨rfl, eT, rfl⟩
theorem d14_0 : decode method_3_code 0 = .ok (.lload_n 0, 1) := by decide +kernel
theorem d14_1 : decode method_3_code 1 = .ok (.lconst 0, 1) := by decide +kernel
theorem d14_2 : decode method_3_code 2 = .ok (.lcmp, 1) := by decide +kernel
theorem d14_3 : decode method_3_code 3 = .ok (.ifCond .eq 15, 3) := by decide +kernel
theorem d14_6 : decode method_3_code 6 = .ok (.lload_n 2, 1) := by decide +kernel
theorem d14_7 : decode method_3_code 7 = .ok (.lconst 0, 1) := by decide +kernel
theorem d14_8 : decode method_3_code 8 = .ok (.lcmp, 1) := by decide +kernel
theorem d14_9 : decode method_3_code 9 = .ok (.ifCond .eq 9, 3) := by decide +kernel
theorem d14_12 : decode method_3_code 12 = .ok (.lload_n 0, 1) := by decide +kernel
theorem d14_13 : decode method_3_code 13 = .ok (.lload_n 2, 1) := by decide +kernel
theorem d14_14 : decode method_3_code 14 = .ok (.lcmp, 1) := by decide +kernel
theorem d14_15 : decode method_3_code 15 = .ok (.ifCond .ne 7, 3) := by decide +kernel
theorem d14_18 : decode method_3_code 18 = .ok (.iconst 1, 1) := by decide +kernel
theorem d14_19 : decode method_3_code 19 = .ok (.goto 4, 3) := by decide +kernel
theorem d14_22 : decode method_3_code 22 = .ok (.iconst 0, 1) := by decide +kernel
theorem d14_23 : decode method_3_code 23 = .ok (.ireturn, 1) := by decide +kernel
def own_ok (x0 : Int64) (x1 : Int64) : Int32 := (if x0 = (0 : Int64) then (1 : Int32) else (if x1 = (0 : Int64) then (1 : Int32) else (if x0 = x1 then (1 : Int32) else (0 : Int32))))
set_option maxRecDepth 65536 in
set_option maxHeartbeats 40000000 in
theorem own_ok_con (l : Launch) (Z : State) (a0 : Array Value) (hw : ∀ d ∈ tables_1, d.before a0 Z = true) (x0 : Int64) (x1 : Int64)  (h0 : Heap) (ws : List Jvm.Cond) :
    own_Con l Z (⟨"tidemark/io/RunsAgreePinLaw", "ok", "(JJ)Z"⟩ : MethodName) method_3_code 4 (some .boolean) ({ frames := 0, cells := 0, slots := 0, locals := 0 } : Room) #[(.long x0), (.long x1)] h0 (own_PQ h0 (.int (own_ok x0 x1))) ws := by
  refine own_con (F := fun m => (mkF m 0 #[.val (.long x0), .second, .val (.long x1), .second] [])) (own_pn (by first | (simp [plainName, overriddenIn]; done) | decide +kernel)) (fun m => by first | (simp [entryFrame, mkF, argsToLocals, Value.category]; done) | rfl) ?_
  intro p e s m below meth c T X hx hby hml hZ hown hnm hret hlk eT
  show own_Go p e below (own_Out s (own_PQ h0 (.int (own_ok x0 x1))) 0 0) (T.setTop (mkF m 0 #[.val (.long x0), .second, .val (.long x1), .second] []))
  show own_Go p e below (own_Out s (own_PQ h0 (.int (if x0 = (0 : Int64) then (1 : Int32) else (if x1 = (0 : Int64) then (1 : Int32) else (if x0 = x1 then (1 : Int32) else (0 : Int32)))))) 0 0) _
  refine own_go (fun _ => XT.lloadN X.here hx rfl (hb hby d14_0) rfl) ?_
  show own_Go p e below _ (T.setTop (mkF m 1 #[.val (.long x0), .second, .val (.long x1), .second] [(.long x0)]))
  refine own_go (fun _ => XT.lconst X.here hx rfl (hb hby d14_1)) ?_
  show own_Go p e below _ (T.setTop (mkF m 2 #[.val (.long x0), .second, .val (.long x1), .second] [(.long (0 : Int64)), (.long x0)]))
  refine own_go (fun _ => XT.lcmp X.here hx rfl (hb hby d14_2) rfl) ?_
  show own_Go p e below _ (T.setTop (mkF m 3 #[.val (.long x0), .second, .val (.long x1), .second] [(.int (XT.cmpL x0 (0 : Int64)))]))
  refine own_iteI (fun hc3 => ?_) (fun hc3 => ?_)
  · skip
    refine own_go (fun _ => XS.ifYes X.here hx rfl (pc0 := 3) (pc' := 18) rfl (hb hby d14_3) rfl (XT.ll_eq_t hc3) (by decide) (by decide)) ?_
    show own_Go p e below _ (T.setTop (mkF m 18 #[.val (.long x0), .second, .val (.long x1), .second] []))
    refine own_go (fun _ => XS.iconst X.here hx rfl (hb hby d14_18)) ?_
    show own_Go p e below _ (T.setTop (mkF m 19 #[.val (.long x0), .second, .val (.long x1), .second] [(.int (1 : Int32))]))
    refine own_go (fun _ => XS.goto X.here hx rfl (pc0 := 19) (pc' := 23) rfl (hb hby d14_19) (by decide) (by decide)) ?_
    show own_Go p e below _ (T.setTop (mkF m 23 #[.val (.long x0), .second, .val (.long x1), .second] [(.int (1 : Int32))]))
    exact own_iret X hx hlk hret (Or.inr (Or.inl rfl)) rfl (hb hby d14_23) (Nat.zero_le _) (Nat.zero_le _) ⟨rfl, eT, rfl⟩
  · skip
    refine own_go (fun _ => XS.ifNo X.here hx rfl (hb hby d14_3) rfl (XT.ll_eq_f hc3)) ?_
    show own_Go p e below _ (T.setTop (mkF m 6 #[.val (.long x0), .second, .val (.long x1), .second] []))
    refine own_go (fun _ => XT.lloadN X.here hx rfl (hb hby d14_6) rfl) ?_
    show own_Go p e below _ (T.setTop (mkF m 7 #[.val (.long x0), .second, .val (.long x1), .second] [(.long x1)]))
    refine own_go (fun _ => XT.lconst X.here hx rfl (hb hby d14_7)) ?_
    show own_Go p e below _ (T.setTop (mkF m 8 #[.val (.long x0), .second, .val (.long x1), .second] [(.long (0 : Int64)), (.long x1)]))
    refine own_go (fun _ => XT.lcmp X.here hx rfl (hb hby d14_8) rfl) ?_
    show own_Go p e below _ (T.setTop (mkF m 9 #[.val (.long x0), .second, .val (.long x1), .second] [(.int (XT.cmpL x1 (0 : Int64)))]))
    refine own_iteI (fun hc9 => ?_) (fun hc9 => ?_)
    · skip
      refine own_go (fun _ => XS.ifYes X.here hx rfl (pc0 := 9) (pc' := 18) rfl (hb hby d14_9) rfl (XT.ll_eq_t hc9) (by decide) (by decide)) ?_
      show own_Go p e below _ (T.setTop (mkF m 18 #[.val (.long x0), .second, .val (.long x1), .second] []))
      refine own_go (fun _ => XS.iconst X.here hx rfl (hb hby d14_18)) ?_
      show own_Go p e below _ (T.setTop (mkF m 19 #[.val (.long x0), .second, .val (.long x1), .second] [(.int (1 : Int32))]))
      refine own_go (fun _ => XS.goto X.here hx rfl (pc0 := 19) (pc' := 23) rfl (hb hby d14_19) (by decide) (by decide)) ?_
      show own_Go p e below _ (T.setTop (mkF m 23 #[.val (.long x0), .second, .val (.long x1), .second] [(.int (1 : Int32))]))
      exact own_iret X hx hlk hret (Or.inr (Or.inl rfl)) rfl (hb hby d14_23) (Nat.zero_le _) (Nat.zero_le _) ⟨rfl, eT, rfl⟩
    · skip
      refine own_go (fun _ => XS.ifNo X.here hx rfl (hb hby d14_9) rfl (XT.ll_eq_f hc9)) ?_
      show own_Go p e below _ (T.setTop (mkF m 12 #[.val (.long x0), .second, .val (.long x1), .second] []))
      refine own_go (fun _ => XT.lloadN X.here hx rfl (hb hby d14_12) rfl) ?_
      show own_Go p e below _ (T.setTop (mkF m 13 #[.val (.long x0), .second, .val (.long x1), .second] [(.long x0)]))
      refine own_go (fun _ => XT.lloadN X.here hx rfl (hb hby d14_13) rfl) ?_
      show own_Go p e below _ (T.setTop (mkF m 14 #[.val (.long x0), .second, .val (.long x1), .second] [(.long x1), (.long x0)]))
      refine own_go (fun _ => XT.lcmp X.here hx rfl (hb hby d14_14) rfl) ?_
      show own_Go p e below _ (T.setTop (mkF m 15 #[.val (.long x0), .second, .val (.long x1), .second] [(.int (XT.cmpL x0 x1))]))
      refine own_iteI (fun hc15 => ?_) (fun hc15 => ?_)
      · skip
        refine own_go (fun _ => XS.ifNo X.here hx rfl (hb hby d14_15) rfl (XT.ll_ne_f hc15)) ?_
        show own_Go p e below _ (T.setTop (mkF m 18 #[.val (.long x0), .second, .val (.long x1), .second] []))
        refine own_go (fun _ => XS.iconst X.here hx rfl (hb hby d14_18)) ?_
        show own_Go p e below _ (T.setTop (mkF m 19 #[.val (.long x0), .second, .val (.long x1), .second] [(.int (1 : Int32))]))
        refine own_go (fun _ => XS.goto X.here hx rfl (pc0 := 19) (pc' := 23) rfl (hb hby d14_19) (by decide) (by decide)) ?_
        show own_Go p e below _ (T.setTop (mkF m 23 #[.val (.long x0), .second, .val (.long x1), .second] [(.int (1 : Int32))]))
        exact own_iret X hx hlk hret (Or.inr (Or.inl rfl)) rfl (hb hby d14_23) (Nat.zero_le _) (Nat.zero_le _) ⟨rfl, eT, rfl⟩
      · skip
        refine own_go (fun _ => XS.ifYes X.here hx rfl (pc0 := 15) (pc' := 22) rfl (hb hby d14_15) rfl (XT.ll_ne_t hc15) (by decide) (by decide)) ?_
        show own_Go p e below _ (T.setTop (mkF m 22 #[.val (.long x0), .second, .val (.long x1), .second] []))
        refine own_go (fun _ => XS.iconst X.here hx rfl (hb hby d14_22)) ?_
        show own_Go p e below _ (T.setTop (mkF m 23 #[.val (.long x0), .second, .val (.long x1), .second] [(.int (0 : Int32))]))
        exact own_iret X hx hlk hret (Or.inr (Or.inl rfl)) rfl (hb hby d14_23) (Nat.zero_le _) (Nat.zero_le _) ⟨rfl, eT, rfl⟩
theorem d5_0 : decode prog_25_method_4_code 0 = .ok (.lload_n 0, 1) := by decide +kernel
theorem d5_1 : decode prog_25_method_4_code 1 = .ok (.lload_n 0, 1) := by decide +kernel
theorem d5_2 : decode prog_25_method_4_code 2 = .ok (.bipush 30, 2) := by decide +kernel
theorem d5_4 : decode prog_25_method_4_code 4 = .ok (.lushr, 1) := by decide +kernel
theorem d5_5 : decode prog_25_method_4_code 5 = .ok (.lxor, 1) := by decide +kernel
theorem d5_6 : decode prog_25_method_4_code 6 = .ok (.ldc2_w 75, 3) := by decide +kernel
theorem d5_9 : decode prog_25_method_4_code 9 = .ok (.lmul, 1) := by decide +kernel
theorem d5_10 : decode prog_25_method_4_code 10 = .ok (.lstore_n 2, 1) := by decide +kernel
theorem d5_11 : decode prog_25_method_4_code 11 = .ok (.lload_n 2, 1) := by decide +kernel
theorem d5_12 : decode prog_25_method_4_code 12 = .ok (.lload_n 2, 1) := by decide +kernel
theorem d5_13 : decode prog_25_method_4_code 13 = .ok (.bipush 27, 2) := by decide +kernel
theorem d5_15 : decode prog_25_method_4_code 15 = .ok (.lushr, 1) := by decide +kernel
theorem d5_16 : decode prog_25_method_4_code 16 = .ok (.lxor, 1) := by decide +kernel
theorem d5_17 : decode prog_25_method_4_code 17 = .ok (.ldc2_w 77, 3) := by decide +kernel
theorem d5_20 : decode prog_25_method_4_code 20 = .ok (.lmul, 1) := by decide +kernel
theorem d5_21 : decode prog_25_method_4_code 21 = .ok (.lstore_n 2, 1) := by decide +kernel
theorem d5_22 : decode prog_25_method_4_code 22 = .ok (.lload_n 2, 1) := by decide +kernel
theorem d5_23 : decode prog_25_method_4_code 23 = .ok (.lload_n 2, 1) := by decide +kernel
theorem d5_24 : decode prog_25_method_4_code 24 = .ok (.bipush 31, 2) := by decide +kernel
theorem d5_26 : decode prog_25_method_4_code 26 = .ok (.lushr, 1) := by decide +kernel
theorem d5_27 : decode prog_25_method_4_code 27 = .ok (.lxor, 1) := by decide +kernel
theorem d5_28 : decode prog_25_method_4_code 28 = .ok (.lreturn, 1) := by decide +kernel
def own_stirred (x0 : Int64) : Int64 := (((((x0 ^^^ (XT.ushrL x0 (30 : Int32))) * (-4658895280553007687 : Int64)) ^^^ (XT.ushrL ((x0 ^^^ (XT.ushrL x0 (30 : Int32))) * (-4658895280553007687 : Int64)) (27 : Int32))) * (-7723592293110705685 : Int64)) ^^^ (XT.ushrL ((((x0 ^^^ (XT.ushrL x0 (30 : Int32))) * (-4658895280553007687 : Int64)) ^^^ (XT.ushrL ((x0 ^^^ (XT.ushrL x0 (30 : Int32))) * (-4658895280553007687 : Int64)) (27 : Int32))) * (-7723592293110705685 : Int64)) (31 : Int32)))
set_option maxRecDepth 65536 in
set_option maxHeartbeats 40000000 in
theorem own_stirred_con (l : Launch) (Z : State) (a0 : Array Value) (hw : ∀ d ∈ tables_1, d.before a0 Z = true) (x0 : Int64)  (h0 : Heap) (ws : List Jvm.Cond) :
    own_Con l Z (⟨"tidemark/io/Runs", "stirred", "(J)J"⟩ : MethodName) prog_25_method_4_code 4 (some .long) ({ frames := 0, cells := 0, slots := 0, locals := 0 } : Room) #[(.long x0)] h0 (own_PQ h0 (.long (own_stirred x0))) ws := by
  refine own_con (F := fun m => (mkF m 0 #[.val (.long x0), .second, .unset, .unset] [])) (own_pn (by first | (simp [plainName, overriddenIn]; done) | decide +kernel)) (fun m => by first | (simp [entryFrame, mkF, argsToLocals, Value.category]; done) | rfl) ?_
  intro p e s m below meth c T X hx hby hml hZ hown hnm hret hlk eT
  show own_Go p e below (own_Out s (own_PQ h0 (.long (own_stirred x0))) 0 0) (T.setTop (mkF m 0 #[.val (.long x0), .second, .unset, .unset] []))
  show own_Go p e below (own_Out s (own_PQ h0 (.long (((((x0 ^^^ (XT.ushrL x0 (30 : Int32))) * (-4658895280553007687 : Int64)) ^^^ (XT.ushrL ((x0 ^^^ (XT.ushrL x0 (30 : Int32))) * (-4658895280553007687 : Int64)) (27 : Int32))) * (-7723592293110705685 : Int64)) ^^^ (XT.ushrL ((((x0 ^^^ (XT.ushrL x0 (30 : Int32))) * (-4658895280553007687 : Int64)) ^^^ (XT.ushrL ((x0 ^^^ (XT.ushrL x0 (30 : Int32))) * (-4658895280553007687 : Int64)) (27 : Int32))) * (-7723592293110705685 : Int64)) (31 : Int32))))) 0 0) _
  refine own_go (fun _ => XT.lloadN X.here hx rfl (hb hby d5_0) rfl) ?_
  show own_Go p e below _ (T.setTop (mkF m 1 #[.val (.long x0), .second, .unset, .unset] [(.long x0)]))
  refine own_go (fun _ => XT.lloadN X.here hx rfl (hb hby d5_1) rfl) ?_
  show own_Go p e below _ (T.setTop (mkF m 2 #[.val (.long x0), .second, .unset, .unset] [(.long x0), (.long x0)]))
  refine own_go (fun _ => XS.bipush X.here hx rfl (hb hby d5_2)) ?_
  show own_Go p e below _ (T.setTop (mkF m 4 #[.val (.long x0), .second, .unset, .unset] [(.int (30 : Int32)), (.long x0), (.long x0)]))
  refine own_go (fun _ => XT.lushr X.here hx rfl (hb hby d5_4) rfl) ?_
  show own_Go p e below _ (T.setTop (mkF m 5 #[.val (.long x0), .second, .unset, .unset] [(.long (XT.ushrL x0 (30 : Int32))), (.long x0)]))
  refine own_go (fun _ => XT.lxor X.here hx rfl (hb hby d5_5) rfl) ?_
  show own_Go p e below _ (T.setTop (mkF m 6 #[.val (.long x0), .second, .unset, .unset] [(.long (x0 ^^^ (XT.ushrL x0 (30 : Int32))))]))
  refine own_go (X.ldc2Long hx hown (mvT hZ (hw _ (List.mem_of_getElem? (i := 31) rfl))) (g := (mkF m 6 #[.val (.long x0), .second, .unset, .unset] [(.long (x0 ^^^ (XT.ushrL x0 (30 : Int32))))])) rfl (hb hby d5_6)) ?_
  show own_Go p e below _ (T.setTop (mkF m 9 #[.val (.long x0), .second, .unset, .unset] [(.long (-4658895280553007687 : Int64)), (.long (x0 ^^^ (XT.ushrL x0 (30 : Int32))))]))
  refine own_go (fun _ => XT.lmul X.here hx rfl (hb hby d5_9) rfl) ?_
  show own_Go p e below _ (T.setTop (mkF m 10 #[.val (.long x0), .second, .unset, .unset] [(.long ((x0 ^^^ (XT.ushrL x0 (30 : Int32))) * (-4658895280553007687 : Int64)))]))
  refine own_go (fun _ => XT.lstoreN X.here hx rfl (hb hby d5_10) rfl (l' := #[.val (.long x0), .second, .val (.long ((x0 ^^^ (XT.ushrL x0 (30 : Int32))) * (-4658895280553007687 : Int64))), .second]) rfl) ?_
  show own_Go p e below _ (T.setTop (mkF m 11 #[.val (.long x0), .second, .val (.long ((x0 ^^^ (XT.ushrL x0 (30 : Int32))) * (-4658895280553007687 : Int64))), .second] []))
  refine own_go (fun _ => XT.lloadN X.here hx rfl (hb hby d5_11) rfl) ?_
  show own_Go p e below _ (T.setTop (mkF m 12 #[.val (.long x0), .second, .val (.long ((x0 ^^^ (XT.ushrL x0 (30 : Int32))) * (-4658895280553007687 : Int64))), .second] [(.long ((x0 ^^^ (XT.ushrL x0 (30 : Int32))) * (-4658895280553007687 : Int64)))]))
  refine own_go (fun _ => XT.lloadN X.here hx rfl (hb hby d5_12) rfl) ?_
  show own_Go p e below _ (T.setTop (mkF m 13 #[.val (.long x0), .second, .val (.long ((x0 ^^^ (XT.ushrL x0 (30 : Int32))) * (-4658895280553007687 : Int64))), .second] [(.long ((x0 ^^^ (XT.ushrL x0 (30 : Int32))) * (-4658895280553007687 : Int64))), (.long ((x0 ^^^ (XT.ushrL x0 (30 : Int32))) * (-4658895280553007687 : Int64)))]))
  refine own_go (fun _ => XS.bipush X.here hx rfl (hb hby d5_13)) ?_
  show own_Go p e below _ (T.setTop (mkF m 15 #[.val (.long x0), .second, .val (.long ((x0 ^^^ (XT.ushrL x0 (30 : Int32))) * (-4658895280553007687 : Int64))), .second] [(.int (27 : Int32)), (.long ((x0 ^^^ (XT.ushrL x0 (30 : Int32))) * (-4658895280553007687 : Int64))), (.long ((x0 ^^^ (XT.ushrL x0 (30 : Int32))) * (-4658895280553007687 : Int64)))]))
  refine own_go (fun _ => XT.lushr X.here hx rfl (hb hby d5_15) rfl) ?_
  show own_Go p e below _ (T.setTop (mkF m 16 #[.val (.long x0), .second, .val (.long ((x0 ^^^ (XT.ushrL x0 (30 : Int32))) * (-4658895280553007687 : Int64))), .second] [(.long (XT.ushrL ((x0 ^^^ (XT.ushrL x0 (30 : Int32))) * (-4658895280553007687 : Int64)) (27 : Int32))), (.long ((x0 ^^^ (XT.ushrL x0 (30 : Int32))) * (-4658895280553007687 : Int64)))]))
  refine own_go (fun _ => XT.lxor X.here hx rfl (hb hby d5_16) rfl) ?_
  show own_Go p e below _ (T.setTop (mkF m 17 #[.val (.long x0), .second, .val (.long ((x0 ^^^ (XT.ushrL x0 (30 : Int32))) * (-4658895280553007687 : Int64))), .second] [(.long (((x0 ^^^ (XT.ushrL x0 (30 : Int32))) * (-4658895280553007687 : Int64)) ^^^ (XT.ushrL ((x0 ^^^ (XT.ushrL x0 (30 : Int32))) * (-4658895280553007687 : Int64)) (27 : Int32))))]))
  refine own_go (X.ldc2Long hx hown (mvT hZ (hw _ (List.mem_of_getElem? (i := 32) rfl))) (g := (mkF m 17 #[.val (.long x0), .second, .val (.long ((x0 ^^^ (XT.ushrL x0 (30 : Int32))) * (-4658895280553007687 : Int64))), .second] [(.long (((x0 ^^^ (XT.ushrL x0 (30 : Int32))) * (-4658895280553007687 : Int64)) ^^^ (XT.ushrL ((x0 ^^^ (XT.ushrL x0 (30 : Int32))) * (-4658895280553007687 : Int64)) (27 : Int32))))])) rfl (hb hby d5_17)) ?_
  show own_Go p e below _ (T.setTop (mkF m 20 #[.val (.long x0), .second, .val (.long ((x0 ^^^ (XT.ushrL x0 (30 : Int32))) * (-4658895280553007687 : Int64))), .second] [(.long (-7723592293110705685 : Int64)), (.long (((x0 ^^^ (XT.ushrL x0 (30 : Int32))) * (-4658895280553007687 : Int64)) ^^^ (XT.ushrL ((x0 ^^^ (XT.ushrL x0 (30 : Int32))) * (-4658895280553007687 : Int64)) (27 : Int32))))]))
  refine own_go (fun _ => XT.lmul X.here hx rfl (hb hby d5_20) rfl) ?_
  show own_Go p e below _ (T.setTop (mkF m 21 #[.val (.long x0), .second, .val (.long ((x0 ^^^ (XT.ushrL x0 (30 : Int32))) * (-4658895280553007687 : Int64))), .second] [(.long ((((x0 ^^^ (XT.ushrL x0 (30 : Int32))) * (-4658895280553007687 : Int64)) ^^^ (XT.ushrL ((x0 ^^^ (XT.ushrL x0 (30 : Int32))) * (-4658895280553007687 : Int64)) (27 : Int32))) * (-7723592293110705685 : Int64)))]))
  refine own_go (fun _ => XT.lstoreN X.here hx rfl (hb hby d5_21) rfl (l' := #[.val (.long x0), .second, .val (.long ((((x0 ^^^ (XT.ushrL x0 (30 : Int32))) * (-4658895280553007687 : Int64)) ^^^ (XT.ushrL ((x0 ^^^ (XT.ushrL x0 (30 : Int32))) * (-4658895280553007687 : Int64)) (27 : Int32))) * (-7723592293110705685 : Int64))), .second]) rfl) ?_
  show own_Go p e below _ (T.setTop (mkF m 22 #[.val (.long x0), .second, .val (.long ((((x0 ^^^ (XT.ushrL x0 (30 : Int32))) * (-4658895280553007687 : Int64)) ^^^ (XT.ushrL ((x0 ^^^ (XT.ushrL x0 (30 : Int32))) * (-4658895280553007687 : Int64)) (27 : Int32))) * (-7723592293110705685 : Int64))), .second] []))
  refine own_go (fun _ => XT.lloadN X.here hx rfl (hb hby d5_22) rfl) ?_
  show own_Go p e below _ (T.setTop (mkF m 23 #[.val (.long x0), .second, .val (.long ((((x0 ^^^ (XT.ushrL x0 (30 : Int32))) * (-4658895280553007687 : Int64)) ^^^ (XT.ushrL ((x0 ^^^ (XT.ushrL x0 (30 : Int32))) * (-4658895280553007687 : Int64)) (27 : Int32))) * (-7723592293110705685 : Int64))), .second] [(.long ((((x0 ^^^ (XT.ushrL x0 (30 : Int32))) * (-4658895280553007687 : Int64)) ^^^ (XT.ushrL ((x0 ^^^ (XT.ushrL x0 (30 : Int32))) * (-4658895280553007687 : Int64)) (27 : Int32))) * (-7723592293110705685 : Int64)))]))
  refine own_go (fun _ => XT.lloadN X.here hx rfl (hb hby d5_23) rfl) ?_
  show own_Go p e below _ (T.setTop (mkF m 24 #[.val (.long x0), .second, .val (.long ((((x0 ^^^ (XT.ushrL x0 (30 : Int32))) * (-4658895280553007687 : Int64)) ^^^ (XT.ushrL ((x0 ^^^ (XT.ushrL x0 (30 : Int32))) * (-4658895280553007687 : Int64)) (27 : Int32))) * (-7723592293110705685 : Int64))), .second] [(.long ((((x0 ^^^ (XT.ushrL x0 (30 : Int32))) * (-4658895280553007687 : Int64)) ^^^ (XT.ushrL ((x0 ^^^ (XT.ushrL x0 (30 : Int32))) * (-4658895280553007687 : Int64)) (27 : Int32))) * (-7723592293110705685 : Int64))), (.long ((((x0 ^^^ (XT.ushrL x0 (30 : Int32))) * (-4658895280553007687 : Int64)) ^^^ (XT.ushrL ((x0 ^^^ (XT.ushrL x0 (30 : Int32))) * (-4658895280553007687 : Int64)) (27 : Int32))) * (-7723592293110705685 : Int64)))]))
  refine own_go (fun _ => XS.bipush X.here hx rfl (hb hby d5_24)) ?_
  show own_Go p e below _ (T.setTop (mkF m 26 #[.val (.long x0), .second, .val (.long ((((x0 ^^^ (XT.ushrL x0 (30 : Int32))) * (-4658895280553007687 : Int64)) ^^^ (XT.ushrL ((x0 ^^^ (XT.ushrL x0 (30 : Int32))) * (-4658895280553007687 : Int64)) (27 : Int32))) * (-7723592293110705685 : Int64))), .second] [(.int (31 : Int32)), (.long ((((x0 ^^^ (XT.ushrL x0 (30 : Int32))) * (-4658895280553007687 : Int64)) ^^^ (XT.ushrL ((x0 ^^^ (XT.ushrL x0 (30 : Int32))) * (-4658895280553007687 : Int64)) (27 : Int32))) * (-7723592293110705685 : Int64))), (.long ((((x0 ^^^ (XT.ushrL x0 (30 : Int32))) * (-4658895280553007687 : Int64)) ^^^ (XT.ushrL ((x0 ^^^ (XT.ushrL x0 (30 : Int32))) * (-4658895280553007687 : Int64)) (27 : Int32))) * (-7723592293110705685 : Int64)))]))
  refine own_go (fun _ => XT.lushr X.here hx rfl (hb hby d5_26) rfl) ?_
  show own_Go p e below _ (T.setTop (mkF m 27 #[.val (.long x0), .second, .val (.long ((((x0 ^^^ (XT.ushrL x0 (30 : Int32))) * (-4658895280553007687 : Int64)) ^^^ (XT.ushrL ((x0 ^^^ (XT.ushrL x0 (30 : Int32))) * (-4658895280553007687 : Int64)) (27 : Int32))) * (-7723592293110705685 : Int64))), .second] [(.long (XT.ushrL ((((x0 ^^^ (XT.ushrL x0 (30 : Int32))) * (-4658895280553007687 : Int64)) ^^^ (XT.ushrL ((x0 ^^^ (XT.ushrL x0 (30 : Int32))) * (-4658895280553007687 : Int64)) (27 : Int32))) * (-7723592293110705685 : Int64)) (31 : Int32))), (.long ((((x0 ^^^ (XT.ushrL x0 (30 : Int32))) * (-4658895280553007687 : Int64)) ^^^ (XT.ushrL ((x0 ^^^ (XT.ushrL x0 (30 : Int32))) * (-4658895280553007687 : Int64)) (27 : Int32))) * (-7723592293110705685 : Int64)))]))
  refine own_go (fun _ => XT.lxor X.here hx rfl (hb hby d5_27) rfl) ?_
  show own_Go p e below _ (T.setTop (mkF m 28 #[.val (.long x0), .second, .val (.long ((((x0 ^^^ (XT.ushrL x0 (30 : Int32))) * (-4658895280553007687 : Int64)) ^^^ (XT.ushrL ((x0 ^^^ (XT.ushrL x0 (30 : Int32))) * (-4658895280553007687 : Int64)) (27 : Int32))) * (-7723592293110705685 : Int64))), .second] [(.long (((((x0 ^^^ (XT.ushrL x0 (30 : Int32))) * (-4658895280553007687 : Int64)) ^^^ (XT.ushrL ((x0 ^^^ (XT.ushrL x0 (30 : Int32))) * (-4658895280553007687 : Int64)) (27 : Int32))) * (-7723592293110705685 : Int64)) ^^^ (XT.ushrL ((((x0 ^^^ (XT.ushrL x0 (30 : Int32))) * (-4658895280553007687 : Int64)) ^^^ (XT.ushrL ((x0 ^^^ (XT.ushrL x0 (30 : Int32))) * (-4658895280553007687 : Int64)) (27 : Int32))) * (-7723592293110705685 : Int64)) (31 : Int32))))]))
  exact own_lret X hx hlk hret (hb hby d5_28) (Nat.zero_le _) (Nat.zero_le _) ⟨rfl, eT, rfl⟩
theorem d4_0 : decode prog_25_method_3_code 0 = .ok (.aload_n 0, 1) := by decide +kernel
theorem d4_1 : decode prog_25_method_3_code 1 = .ok (.arraylength, 1) := by decide +kernel
theorem d4_2 : decode prog_25_method_3_code 2 = .ok (.i2l, 1) := by decide +kernel
theorem d4_3 : decode prog_25_method_3_code 3 = .ok (.lstore_n 1, 1) := by decide +kernel
theorem d4_4 : decode prog_25_method_3_code 4 = .ok (.aload_n 0, 1) := by decide +kernel
theorem d4_5 : decode prog_25_method_3_code 5 = .ok (.astore_n 3, 1) := by decide +kernel
theorem d4_6 : decode prog_25_method_3_code 6 = .ok (.aload_n 3, 1) := by decide +kernel
theorem d4_7 : decode prog_25_method_3_code 7 = .ok (.arraylength, 1) := by decide +kernel
theorem d4_8 : decode prog_25_method_3_code 8 = .ok (.istore 4, 2) := by decide +kernel
theorem d4_10 : decode prog_25_method_3_code 10 = .ok (.iconst 0, 1) := by decide +kernel
theorem d4_11 : decode prog_25_method_3_code 11 = .ok (.istore 5, 2) := by decide +kernel
theorem d4_13 : decode prog_25_method_3_code 13 = .ok (.iload 5, 2) := by decide +kernel
theorem d4_15 : decode prog_25_method_3_code 15 = .ok (.iload 4, 2) := by decide +kernel
theorem d4_17 : decode prog_25_method_3_code 17 = .ok (.if_icmp .ge 27, 3) := by decide +kernel
theorem d4_20 : decode prog_25_method_3_code 20 = .ok (.aload_n 3, 1) := by decide +kernel
theorem d4_21 : decode prog_25_method_3_code 21 = .ok (.iload 5, 2) := by decide +kernel
theorem d4_23 : decode prog_25_method_3_code 23 = .ok (.laload, 1) := by decide +kernel
theorem d4_24 : decode prog_25_method_3_code 24 = .ok (.lstore 6, 2) := by decide +kernel
theorem d4_26 : decode prog_25_method_3_code 26 = .ok (.lload_n 1, 1) := by decide +kernel
theorem d4_27 : decode prog_25_method_3_code 27 = .ok (.ldc2_w 69, 3) := by decide +kernel
theorem d4_30 : decode prog_25_method_3_code 30 = .ok (.lmul, 1) := by decide +kernel
theorem d4_31 : decode prog_25_method_3_code 31 = .ok (.lload 6, 2) := by decide +kernel
theorem d4_33 : decode prog_25_method_3_code 33 = .ok (.ladd, 1) := by decide +kernel
theorem d4_34 : decode prog_25_method_3_code 34 = .ok (.invokestatic 71, 3) := by decide +kernel
theorem d4_37 : decode prog_25_method_3_code 37 = .ok (.lstore_n 1, 1) := by decide +kernel
theorem d4_38 : decode prog_25_method_3_code 38 = .ok (.iinc 5 1, 3) := by decide +kernel
theorem d4_41 : decode prog_25_method_3_code 41 = .ok (.goto (-28), 3) := by decide +kernel
theorem d4_44 : decode prog_25_method_3_code 44 = .ok (.lload_n 1, 1) := by decide +kernel
theorem d4_45 : decode prog_25_method_3_code 45 = .ok (.lconst 1, 1) := by decide +kernel
theorem d4_46 : decode prog_25_method_3_code 46 = .ok (.lor, 1) := by decide +kernel
theorem d4_47 : decode prog_25_method_3_code 47 = .ok (.lreturn, 1) := by decide +kernel
def own_mark (y0 y1 y2 : Int64) : Int64 := ((own_stirred (((own_stirred (((own_stirred ((((3 : Int32).toInt64) * (-7046029254386353131 : Int64)) + y0)) * (-7046029254386353131 : Int64)) + y1)) * (-7046029254386353131 : Int64)) + y2)) ||| (1 : Int64))
set_option maxRecDepth 65536 in
set_option maxHeartbeats 40000000 in
theorem own_markOf_con (l : Launch) (Z : State) (a0 : Array Value) (hw : ∀ d ∈ tables_1, d.before a0 Z = true) (r : Addr) (y0 y1 y2 : Int64) (h0 : Heap) (av : own_AV Z h0 r .long [.long y0, .long y1, .long y2]) (ws : List Jvm.Cond) :
    own_Con l Z (⟨"tidemark/io/Runs", "markOf", "([J)J"⟩ : MethodName) prog_25_method_3_code 8 (some .long) ({ frames := 1, cells := 0, slots := 0, locals := 40 } : Room) #[(.ref r)] h0 (own_PQ h0 (.long (own_mark y0 y1 y2))) ws := by
  refine own_con (F := fun m => (mkF m 0 #[.val (.ref r), .unset, .unset, .unset, .unset, .unset, .unset, .unset] [])) (own_pn (by first | (simp [plainName, overriddenIn]; done) | decide +kernel)) (fun m => by first | (simp [entryFrame, mkF, argsToLocals, Value.category]; done) | rfl) ?_
  intro p e s m below meth c T X hx hby hml hZ hown hnm hret hlk eT
  show own_Go p e below (own_Out s (own_PQ h0 (.long (own_mark y0 y1 y2))) ({ frames := 1, cells := 0, slots := 0, locals := 40 } : Room).cells ({ frames := 1, cells := 0, slots := 0, locals := 40 } : Room).slots) (T.setTop (mkF m 0 #[.val (.ref r), .unset, .unset, .unset, .unset, .unset, .unset, .unset] []))
  refine own_go (fun _ => XS.aloadN X.here hx rfl (hb hby d4_0) rfl rfl) ?_
  show own_Go p e below _ (T.setTop (mkF m 1 #[.val (.ref r), .unset, .unset, .unset, .unset, .unset, .unset, .unset] [(.ref r)]))
  refine own_go (own_len X hx hZ eT av (g := (mkF m 1 #[.val (.ref r), .unset, .unset, .unset, .unset, .unset, .unset, .unset] [(.ref r)])) rfl rfl (hb hby d4_1) (3 : Int32) rfl) ?_
  show own_Go p e below _ (T.setTop (mkF m 2 #[.val (.ref r), .unset, .unset, .unset, .unset, .unset, .unset, .unset] [(.int (3 : Int32))]))
  refine own_go (fun _ => XT.i2l X.here hx rfl (hb hby d4_2) rfl) ?_
  show own_Go p e below _ (T.setTop (mkF m 3 #[.val (.ref r), .unset, .unset, .unset, .unset, .unset, .unset, .unset] [(.long ((3 : Int32).toInt64))]))
  refine own_go (fun _ => XT.lstoreN X.here hx rfl (hb hby d4_3) rfl (l' := #[.val (.ref r), .val (.long ((3 : Int32).toInt64)), .second, .unset, .unset, .unset, .unset, .unset]) rfl) ?_
  show own_Go p e below _ (T.setTop (mkF m 4 #[.val (.ref r), .val (.long ((3 : Int32).toInt64)), .second, .unset, .unset, .unset, .unset, .unset] []))
  refine own_go (fun _ => XS.aloadN X.here hx rfl (hb hby d4_4) rfl rfl) ?_
  show own_Go p e below _ (T.setTop (mkF m 5 #[.val (.ref r), .val (.long ((3 : Int32).toInt64)), .second, .unset, .unset, .unset, .unset, .unset] [(.ref r)]))
  refine own_go (fun _ => XS.astoreN X.here hx rfl (hb hby d4_5) rfl rfl (l' := #[.val (.ref r), .val (.long ((3 : Int32).toInt64)), .second, .val (.ref r), .unset, .unset, .unset, .unset]) rfl) ?_
  show own_Go p e below _ (T.setTop (mkF m 6 #[.val (.ref r), .val (.long ((3 : Int32).toInt64)), .second, .val (.ref r), .unset, .unset, .unset, .unset] []))
  refine own_go (fun _ => XS.aloadN X.here hx rfl (hb hby d4_6) rfl rfl) ?_
  show own_Go p e below _ (T.setTop (mkF m 7 #[.val (.ref r), .val (.long ((3 : Int32).toInt64)), .second, .val (.ref r), .unset, .unset, .unset, .unset] [(.ref r)]))
  refine own_go (own_len X hx hZ eT av (g := (mkF m 7 #[.val (.ref r), .val (.long ((3 : Int32).toInt64)), .second, .val (.ref r), .unset, .unset, .unset, .unset] [(.ref r)])) rfl rfl (hb hby d4_7) (3 : Int32) rfl) ?_
  show own_Go p e below _ (T.setTop (mkF m 8 #[.val (.ref r), .val (.long ((3 : Int32).toInt64)), .second, .val (.ref r), .unset, .unset, .unset, .unset] [(.int (3 : Int32))]))
  refine own_go (fun _ => XS.istore X.here hx rfl (hb hby d4_8) rfl (l' := #[.val (.ref r), .val (.long ((3 : Int32).toInt64)), .second, .val (.ref r), .val (.int (3 : Int32)), .unset, .unset, .unset]) rfl) ?_
  show own_Go p e below _ (T.setTop (mkF m 10 #[.val (.ref r), .val (.long ((3 : Int32).toInt64)), .second, .val (.ref r), .val (.int (3 : Int32)), .unset, .unset, .unset] []))
  refine own_go (fun _ => XS.iconst X.here hx rfl (hb hby d4_10)) ?_
  show own_Go p e below _ (T.setTop (mkF m 11 #[.val (.ref r), .val (.long ((3 : Int32).toInt64)), .second, .val (.ref r), .val (.int (3 : Int32)), .unset, .unset, .unset] [(.int (0 : Int32))]))
  refine own_go (fun _ => XS.istore X.here hx rfl (hb hby d4_11) rfl (l' := #[.val (.ref r), .val (.long ((3 : Int32).toInt64)), .second, .val (.ref r), .val (.int (3 : Int32)), .val (.int (0 : Int32)), .unset, .unset]) rfl) ?_
  show own_Go p e below _ (T.setTop (mkF m 13 #[.val (.ref r), .val (.long ((3 : Int32).toInt64)), .second, .val (.ref r), .val (.int (3 : Int32)), .val (.int (0 : Int32)), .unset, .unset] []))
  refine own_go (fun _ => XS.iload X.here hx rfl (hb hby d4_13) rfl) ?_
  show own_Go p e below _ (T.setTop (mkF m 15 #[.val (.ref r), .val (.long ((3 : Int32).toInt64)), .second, .val (.ref r), .val (.int (3 : Int32)), .val (.int (0 : Int32)), .unset, .unset] [(.int (0 : Int32))]))
  refine own_go (fun _ => XS.iload X.here hx rfl (hb hby d4_15) rfl) ?_
  show own_Go p e below _ (T.setTop (mkF m 17 #[.val (.ref r), .val (.long ((3 : Int32).toInt64)), .second, .val (.ref r), .val (.int (3 : Int32)), .val (.int (0 : Int32)), .unset, .unset] [(.int (3 : Int32)), (.int (0 : Int32))]))
  refine own_go (fun _ => XS.icmpNo X.here hx rfl (hb hby d4_17) rfl (XT.ii_ge_f (by decide))) ?_
  show own_Go p e below _ (T.setTop (mkF m 20 #[.val (.ref r), .val (.long ((3 : Int32).toInt64)), .second, .val (.ref r), .val (.int (3 : Int32)), .val (.int (0 : Int32)), .unset, .unset] []))
  refine own_go (fun _ => XS.aloadN X.here hx rfl (hb hby d4_20) rfl rfl) ?_
  show own_Go p e below _ (T.setTop (mkF m 21 #[.val (.ref r), .val (.long ((3 : Int32).toInt64)), .second, .val (.ref r), .val (.int (3 : Int32)), .val (.int (0 : Int32)), .unset, .unset] [(.ref r)]))
  refine own_go (fun _ => XS.iload X.here hx rfl (hb hby d4_21) rfl) ?_
  show own_Go p e below _ (T.setTop (mkF m 23 #[.val (.ref r), .val (.long ((3 : Int32).toInt64)), .second, .val (.ref r), .val (.int (3 : Int32)), .val (.int (0 : Int32)), .unset, .unset] [(.int (0 : Int32)), (.ref r)]))
  refine own_go (own_ldJ X hx hZ eT av (g := (mkF m 23 #[.val (.ref r), .val (.long ((3 : Int32).toInt64)), .second, .val (.ref r), .val (.int (3 : Int32)), .val (.int (0 : Int32)), .unset, .unset] [(.int (0 : Int32)), (.ref r)])) rfl rfl (hb hby d4_23) 0 (by decide) (x := (.long y0)) rfl) ?_
  show own_Go p e below _ (T.setTop (mkF m 24 #[.val (.ref r), .val (.long ((3 : Int32).toInt64)), .second, .val (.ref r), .val (.int (3 : Int32)), .val (.int (0 : Int32)), .unset, .unset] [(.long y0)]))
  refine own_go (fun _ => XT.lstore X.here hx rfl (hb hby d4_24) rfl (l' := #[.val (.ref r), .val (.long ((3 : Int32).toInt64)), .second, .val (.ref r), .val (.int (3 : Int32)), .val (.int (0 : Int32)), .val (.long y0), .second]) rfl) ?_
  show own_Go p e below _ (T.setTop (mkF m 26 #[.val (.ref r), .val (.long ((3 : Int32).toInt64)), .second, .val (.ref r), .val (.int (3 : Int32)), .val (.int (0 : Int32)), .val (.long y0), .second] []))
  refine own_go (fun _ => XT.lloadN X.here hx rfl (hb hby d4_26) rfl) ?_
  show own_Go p e below _ (T.setTop (mkF m 27 #[.val (.ref r), .val (.long ((3 : Int32).toInt64)), .second, .val (.ref r), .val (.int (3 : Int32)), .val (.int (0 : Int32)), .val (.long y0), .second] [(.long ((3 : Int32).toInt64))]))
  refine own_go (X.ldc2Long hx hown (mvT hZ (hw _ (List.mem_of_getElem? (i := 27) rfl))) (g := (mkF m 27 #[.val (.ref r), .val (.long ((3 : Int32).toInt64)), .second, .val (.ref r), .val (.int (3 : Int32)), .val (.int (0 : Int32)), .val (.long y0), .second] [(.long ((3 : Int32).toInt64))])) rfl (hb hby d4_27)) ?_
  show own_Go p e below _ (T.setTop (mkF m 30 #[.val (.ref r), .val (.long ((3 : Int32).toInt64)), .second, .val (.ref r), .val (.int (3 : Int32)), .val (.int (0 : Int32)), .val (.long y0), .second] [(.long (-7046029254386353131 : Int64)), (.long ((3 : Int32).toInt64))]))
  refine own_go (fun _ => XT.lmul X.here hx rfl (hb hby d4_30) rfl) ?_
  show own_Go p e below _ (T.setTop (mkF m 31 #[.val (.ref r), .val (.long ((3 : Int32).toInt64)), .second, .val (.ref r), .val (.int (3 : Int32)), .val (.int (0 : Int32)), .val (.long y0), .second] [(.long (((3 : Int32).toInt64) * (-7046029254386353131 : Int64)))]))
  refine own_go (fun _ => XT.lload X.here hx rfl (hb hby d4_31) rfl) ?_
  show own_Go p e below _ (T.setTop (mkF m 33 #[.val (.ref r), .val (.long ((3 : Int32).toInt64)), .second, .val (.ref r), .val (.int (3 : Int32)), .val (.int (0 : Int32)), .val (.long y0), .second] [(.long y0), (.long (((3 : Int32).toInt64) * (-7046029254386353131 : Int64)))]))
  refine own_go (fun _ => XT.ladd X.here hx rfl (hb hby d4_33) rfl) ?_
  show own_Go p e below _ (T.setTop (mkF m 34 #[.val (.ref r), .val (.long ((3 : Int32).toInt64)), .second, .val (.ref r), .val (.int (3 : Int32)), .val (.int (0 : Int32)), .val (.long y0), .second] [(.long ((((3 : Int32).toInt64) * (-7046029254386353131 : Int64)) + y0))]))
  obtain ⟨T1, X1, e1, st1⟩ := own_callSP X hx hZ hown (argsL := [(.long ((((3 : Int32).toInt64) * (-7046029254386353131 : Int64)) + y0))]) (rest := []) (own_stirred_con l Z a0 hw ((((3 : Int32).toInt64) * (-7046029254386353131 : Int64)) + y0) h0 []) eT (hw _ (List.mem_of_getElem? (i := 28) rfl)) (hw _ (List.mem_of_getElem? (i := 29) rfl)) (hw _ (List.mem_of_getElem? (i := 9) rfl)) (hw _ (List.mem_of_getElem? (i := 30) rfl)) (by decide) (by decide +kernel : parseMethodDescriptor "(J)J" = some ⟨[.long], some .long⟩) rfl (g := (mkF m 34 #[.val (.ref r), .val (.long ((3 : Int32).toInt64)), .second, .val (.ref r), .val (.int (3 : Int32)), .val (.int (0 : Int32)), .val (.long y0), .second] [(.long ((((3 : Int32).toInt64) * (-7046029254386353131 : Int64)) + y0))])) rfl (by rw [hml]; rfl) rfl 0 (by show 2 * 0 + _ ≤ _; exact Nat.le_of_eq rfl) (hb hby d4_34) (by decide) (by decide) rfl rfl (by decide) (by decide)
  refine own_go st1 ?_
  show own_Go p e below _ (T1.setTop (mkF m 37 #[.val (.ref r), .val (.long ((3 : Int32).toInt64)), .second, .val (.ref r), .val (.int (3 : Int32)), .val (.int (0 : Int32)), .val (.long y0), .second] [(.long (own_stirred ((((3 : Int32).toInt64) * (-7046029254386353131 : Int64)) + y0)))]))
  refine own_go (fun _ => XT.lstoreN X1.here hx rfl (hb hby d4_37) rfl (l' := #[.val (.ref r), .val (.long (own_stirred ((((3 : Int32).toInt64) * (-7046029254386353131 : Int64)) + y0))), .second, .val (.ref r), .val (.int (3 : Int32)), .val (.int (0 : Int32)), .val (.long y0), .second]) rfl) ?_
  show own_Go p e below _ (T1.setTop (mkF m 38 #[.val (.ref r), .val (.long (own_stirred ((((3 : Int32).toInt64) * (-7046029254386353131 : Int64)) + y0))), .second, .val (.ref r), .val (.int (3 : Int32)), .val (.int (0 : Int32)), .val (.long y0), .second] []))
  refine own_go (fun _ => XT.iincV X1.here hx rfl (1 : Int32) (hb hby d4_38) rfl rfl (l' := #[.val (.ref r), .val (.long (own_stirred ((((3 : Int32).toInt64) * (-7046029254386353131 : Int64)) + y0))), .second, .val (.ref r), .val (.int (3 : Int32)), .val (.int ((0 : Int32) + (1 : Int32))), .val (.long y0), .second]) rfl) ?_
  show own_Go p e below _ (T1.setTop (mkF m 41 #[.val (.ref r), .val (.long (own_stirred ((((3 : Int32).toInt64) * (-7046029254386353131 : Int64)) + y0))), .second, .val (.ref r), .val (.int (3 : Int32)), .val (.int ((0 : Int32) + (1 : Int32))), .val (.long y0), .second] []))
  refine own_go (fun _ => XS.goto X1.here hx rfl (pc0 := 41) (pc' := 13) rfl (hb hby d4_41) (by decide) (by decide)) ?_
  show own_Go p e below _ (T1.setTop (mkF m 13 #[.val (.ref r), .val (.long (own_stirred ((((3 : Int32).toInt64) * (-7046029254386353131 : Int64)) + y0))), .second, .val (.ref r), .val (.int (3 : Int32)), .val (.int ((0 : Int32) + (1 : Int32))), .val (.long y0), .second] []))
  refine own_go (fun _ => XS.iload X1.here hx rfl (hb hby d4_13) rfl) ?_
  show own_Go p e below _ (T1.setTop (mkF m 15 #[.val (.ref r), .val (.long (own_stirred ((((3 : Int32).toInt64) * (-7046029254386353131 : Int64)) + y0))), .second, .val (.ref r), .val (.int (3 : Int32)), .val (.int ((0 : Int32) + (1 : Int32))), .val (.long y0), .second] [(.int ((0 : Int32) + (1 : Int32)))]))
  refine own_go (fun _ => XS.iload X1.here hx rfl (hb hby d4_15) rfl) ?_
  show own_Go p e below _ (T1.setTop (mkF m 17 #[.val (.ref r), .val (.long (own_stirred ((((3 : Int32).toInt64) * (-7046029254386353131 : Int64)) + y0))), .second, .val (.ref r), .val (.int (3 : Int32)), .val (.int ((0 : Int32) + (1 : Int32))), .val (.long y0), .second] [(.int (3 : Int32)), (.int ((0 : Int32) + (1 : Int32)))]))
  refine own_go (fun _ => XS.icmpNo X1.here hx rfl (hb hby d4_17) rfl (XT.ii_ge_f (by decide))) ?_
  show own_Go p e below _ (T1.setTop (mkF m 20 #[.val (.ref r), .val (.long (own_stirred ((((3 : Int32).toInt64) * (-7046029254386353131 : Int64)) + y0))), .second, .val (.ref r), .val (.int (3 : Int32)), .val (.int ((0 : Int32) + (1 : Int32))), .val (.long y0), .second] []))
  refine own_go (fun _ => XS.aloadN X1.here hx rfl (hb hby d4_20) rfl rfl) ?_
  show own_Go p e below _ (T1.setTop (mkF m 21 #[.val (.ref r), .val (.long (own_stirred ((((3 : Int32).toInt64) * (-7046029254386353131 : Int64)) + y0))), .second, .val (.ref r), .val (.int (3 : Int32)), .val (.int ((0 : Int32) + (1 : Int32))), .val (.long y0), .second] [(.ref r)]))
  refine own_go (fun _ => XS.iload X1.here hx rfl (hb hby d4_21) rfl) ?_
  show own_Go p e below _ (T1.setTop (mkF m 23 #[.val (.ref r), .val (.long (own_stirred ((((3 : Int32).toInt64) * (-7046029254386353131 : Int64)) + y0))), .second, .val (.ref r), .val (.int (3 : Int32)), .val (.int ((0 : Int32) + (1 : Int32))), .val (.long y0), .second] [(.int ((0 : Int32) + (1 : Int32))), (.ref r)]))
  refine own_go (own_ldJ X1 hx hZ e1 av (g := (mkF m 23 #[.val (.ref r), .val (.long (own_stirred ((((3 : Int32).toInt64) * (-7046029254386353131 : Int64)) + y0))), .second, .val (.ref r), .val (.int (3 : Int32)), .val (.int ((0 : Int32) + (1 : Int32))), .val (.long y0), .second] [(.int ((0 : Int32) + (1 : Int32))), (.ref r)])) rfl rfl (hb hby d4_23) 1 (by decide) (x := (.long y1)) rfl) ?_
  show own_Go p e below _ (T1.setTop (mkF m 24 #[.val (.ref r), .val (.long (own_stirred ((((3 : Int32).toInt64) * (-7046029254386353131 : Int64)) + y0))), .second, .val (.ref r), .val (.int (3 : Int32)), .val (.int ((0 : Int32) + (1 : Int32))), .val (.long y0), .second] [(.long y1)]))
  refine own_go (fun _ => XT.lstore X1.here hx rfl (hb hby d4_24) rfl (l' := #[.val (.ref r), .val (.long (own_stirred ((((3 : Int32).toInt64) * (-7046029254386353131 : Int64)) + y0))), .second, .val (.ref r), .val (.int (3 : Int32)), .val (.int ((0 : Int32) + (1 : Int32))), .val (.long y1), .second]) rfl) ?_
  show own_Go p e below _ (T1.setTop (mkF m 26 #[.val (.ref r), .val (.long (own_stirred ((((3 : Int32).toInt64) * (-7046029254386353131 : Int64)) + y0))), .second, .val (.ref r), .val (.int (3 : Int32)), .val (.int ((0 : Int32) + (1 : Int32))), .val (.long y1), .second] []))
  refine own_go (fun _ => XT.lloadN X1.here hx rfl (hb hby d4_26) rfl) ?_
  show own_Go p e below _ (T1.setTop (mkF m 27 #[.val (.ref r), .val (.long (own_stirred ((((3 : Int32).toInt64) * (-7046029254386353131 : Int64)) + y0))), .second, .val (.ref r), .val (.int (3 : Int32)), .val (.int ((0 : Int32) + (1 : Int32))), .val (.long y1), .second] [(.long (own_stirred ((((3 : Int32).toInt64) * (-7046029254386353131 : Int64)) + y0)))]))
  refine own_go (X1.ldc2Long hx hown (mvT hZ (hw _ (List.mem_of_getElem? (i := 27) rfl))) (g := (mkF m 27 #[.val (.ref r), .val (.long (own_stirred ((((3 : Int32).toInt64) * (-7046029254386353131 : Int64)) + y0))), .second, .val (.ref r), .val (.int (3 : Int32)), .val (.int ((0 : Int32) + (1 : Int32))), .val (.long y1), .second] [(.long (own_stirred ((((3 : Int32).toInt64) * (-7046029254386353131 : Int64)) + y0)))])) rfl (hb hby d4_27)) ?_
  show own_Go p e below _ (T1.setTop (mkF m 30 #[.val (.ref r), .val (.long (own_stirred ((((3 : Int32).toInt64) * (-7046029254386353131 : Int64)) + y0))), .second, .val (.ref r), .val (.int (3 : Int32)), .val (.int ((0 : Int32) + (1 : Int32))), .val (.long y1), .second] [(.long (-7046029254386353131 : Int64)), (.long (own_stirred ((((3 : Int32).toInt64) * (-7046029254386353131 : Int64)) + y0)))]))
  refine own_go (fun _ => XT.lmul X1.here hx rfl (hb hby d4_30) rfl) ?_
  show own_Go p e below _ (T1.setTop (mkF m 31 #[.val (.ref r), .val (.long (own_stirred ((((3 : Int32).toInt64) * (-7046029254386353131 : Int64)) + y0))), .second, .val (.ref r), .val (.int (3 : Int32)), .val (.int ((0 : Int32) + (1 : Int32))), .val (.long y1), .second] [(.long ((own_stirred ((((3 : Int32).toInt64) * (-7046029254386353131 : Int64)) + y0)) * (-7046029254386353131 : Int64)))]))
  refine own_go (fun _ => XT.lload X1.here hx rfl (hb hby d4_31) rfl) ?_
  show own_Go p e below _ (T1.setTop (mkF m 33 #[.val (.ref r), .val (.long (own_stirred ((((3 : Int32).toInt64) * (-7046029254386353131 : Int64)) + y0))), .second, .val (.ref r), .val (.int (3 : Int32)), .val (.int ((0 : Int32) + (1 : Int32))), .val (.long y1), .second] [(.long y1), (.long ((own_stirred ((((3 : Int32).toInt64) * (-7046029254386353131 : Int64)) + y0)) * (-7046029254386353131 : Int64)))]))
  refine own_go (fun _ => XT.ladd X1.here hx rfl (hb hby d4_33) rfl) ?_
  show own_Go p e below _ (T1.setTop (mkF m 34 #[.val (.ref r), .val (.long (own_stirred ((((3 : Int32).toInt64) * (-7046029254386353131 : Int64)) + y0))), .second, .val (.ref r), .val (.int (3 : Int32)), .val (.int ((0 : Int32) + (1 : Int32))), .val (.long y1), .second] [(.long (((own_stirred ((((3 : Int32).toInt64) * (-7046029254386353131 : Int64)) + y0)) * (-7046029254386353131 : Int64)) + y1))]))
  obtain ⟨T2, X2, e2, st2⟩ := own_callSP X1 hx hZ hown (argsL := [(.long (((own_stirred ((((3 : Int32).toInt64) * (-7046029254386353131 : Int64)) + y0)) * (-7046029254386353131 : Int64)) + y1))]) (rest := []) (own_stirred_con l Z a0 hw (((own_stirred ((((3 : Int32).toInt64) * (-7046029254386353131 : Int64)) + y0)) * (-7046029254386353131 : Int64)) + y1) h0 []) e1 (hw _ (List.mem_of_getElem? (i := 28) rfl)) (hw _ (List.mem_of_getElem? (i := 29) rfl)) (hw _ (List.mem_of_getElem? (i := 9) rfl)) (hw _ (List.mem_of_getElem? (i := 30) rfl)) (by decide) (by decide +kernel : parseMethodDescriptor "(J)J" = some ⟨[.long], some .long⟩) rfl (g := (mkF m 34 #[.val (.ref r), .val (.long (own_stirred ((((3 : Int32).toInt64) * (-7046029254386353131 : Int64)) + y0))), .second, .val (.ref r), .val (.int (3 : Int32)), .val (.int ((0 : Int32) + (1 : Int32))), .val (.long y1), .second] [(.long (((own_stirred ((((3 : Int32).toInt64) * (-7046029254386353131 : Int64)) + y0)) * (-7046029254386353131 : Int64)) + y1))])) rfl (by rw [hml]; rfl) rfl 0 (by show 2 * 0 + _ ≤ _; exact Nat.le_of_eq rfl) (hb hby d4_34) (by decide) (by decide) rfl rfl (by decide) (by decide)
  refine own_go st2 ?_
  show own_Go p e below _ (T2.setTop (mkF m 37 #[.val (.ref r), .val (.long (own_stirred ((((3 : Int32).toInt64) * (-7046029254386353131 : Int64)) + y0))), .second, .val (.ref r), .val (.int (3 : Int32)), .val (.int ((0 : Int32) + (1 : Int32))), .val (.long y1), .second] [(.long (own_stirred (((own_stirred ((((3 : Int32).toInt64) * (-7046029254386353131 : Int64)) + y0)) * (-7046029254386353131 : Int64)) + y1)))]))
  refine own_go (fun _ => XT.lstoreN X2.here hx rfl (hb hby d4_37) rfl (l' := #[.val (.ref r), .val (.long (own_stirred (((own_stirred ((((3 : Int32).toInt64) * (-7046029254386353131 : Int64)) + y0)) * (-7046029254386353131 : Int64)) + y1))), .second, .val (.ref r), .val (.int (3 : Int32)), .val (.int ((0 : Int32) + (1 : Int32))), .val (.long y1), .second]) rfl) ?_
  show own_Go p e below _ (T2.setTop (mkF m 38 #[.val (.ref r), .val (.long (own_stirred (((own_stirred ((((3 : Int32).toInt64) * (-7046029254386353131 : Int64)) + y0)) * (-7046029254386353131 : Int64)) + y1))), .second, .val (.ref r), .val (.int (3 : Int32)), .val (.int ((0 : Int32) + (1 : Int32))), .val (.long y1), .second] []))
  refine own_go (fun _ => XT.iincV X2.here hx rfl (1 : Int32) (hb hby d4_38) rfl rfl (l' := #[.val (.ref r), .val (.long (own_stirred (((own_stirred ((((3 : Int32).toInt64) * (-7046029254386353131 : Int64)) + y0)) * (-7046029254386353131 : Int64)) + y1))), .second, .val (.ref r), .val (.int (3 : Int32)), .val (.int (((0 : Int32) + (1 : Int32)) + (1 : Int32))), .val (.long y1), .second]) rfl) ?_
  show own_Go p e below _ (T2.setTop (mkF m 41 #[.val (.ref r), .val (.long (own_stirred (((own_stirred ((((3 : Int32).toInt64) * (-7046029254386353131 : Int64)) + y0)) * (-7046029254386353131 : Int64)) + y1))), .second, .val (.ref r), .val (.int (3 : Int32)), .val (.int (((0 : Int32) + (1 : Int32)) + (1 : Int32))), .val (.long y1), .second] []))
  refine own_go (fun _ => XS.goto X2.here hx rfl (pc0 := 41) (pc' := 13) rfl (hb hby d4_41) (by decide) (by decide)) ?_
  show own_Go p e below _ (T2.setTop (mkF m 13 #[.val (.ref r), .val (.long (own_stirred (((own_stirred ((((3 : Int32).toInt64) * (-7046029254386353131 : Int64)) + y0)) * (-7046029254386353131 : Int64)) + y1))), .second, .val (.ref r), .val (.int (3 : Int32)), .val (.int (((0 : Int32) + (1 : Int32)) + (1 : Int32))), .val (.long y1), .second] []))
  refine own_go (fun _ => XS.iload X2.here hx rfl (hb hby d4_13) rfl) ?_
  show own_Go p e below _ (T2.setTop (mkF m 15 #[.val (.ref r), .val (.long (own_stirred (((own_stirred ((((3 : Int32).toInt64) * (-7046029254386353131 : Int64)) + y0)) * (-7046029254386353131 : Int64)) + y1))), .second, .val (.ref r), .val (.int (3 : Int32)), .val (.int (((0 : Int32) + (1 : Int32)) + (1 : Int32))), .val (.long y1), .second] [(.int (((0 : Int32) + (1 : Int32)) + (1 : Int32)))]))
  refine own_go (fun _ => XS.iload X2.here hx rfl (hb hby d4_15) rfl) ?_
  show own_Go p e below _ (T2.setTop (mkF m 17 #[.val (.ref r), .val (.long (own_stirred (((own_stirred ((((3 : Int32).toInt64) * (-7046029254386353131 : Int64)) + y0)) * (-7046029254386353131 : Int64)) + y1))), .second, .val (.ref r), .val (.int (3 : Int32)), .val (.int (((0 : Int32) + (1 : Int32)) + (1 : Int32))), .val (.long y1), .second] [(.int (3 : Int32)), (.int (((0 : Int32) + (1 : Int32)) + (1 : Int32)))]))
  refine own_go (fun _ => XS.icmpNo X2.here hx rfl (hb hby d4_17) rfl (XT.ii_ge_f (by decide))) ?_
  show own_Go p e below _ (T2.setTop (mkF m 20 #[.val (.ref r), .val (.long (own_stirred (((own_stirred ((((3 : Int32).toInt64) * (-7046029254386353131 : Int64)) + y0)) * (-7046029254386353131 : Int64)) + y1))), .second, .val (.ref r), .val (.int (3 : Int32)), .val (.int (((0 : Int32) + (1 : Int32)) + (1 : Int32))), .val (.long y1), .second] []))
  refine own_go (fun _ => XS.aloadN X2.here hx rfl (hb hby d4_20) rfl rfl) ?_
  show own_Go p e below _ (T2.setTop (mkF m 21 #[.val (.ref r), .val (.long (own_stirred (((own_stirred ((((3 : Int32).toInt64) * (-7046029254386353131 : Int64)) + y0)) * (-7046029254386353131 : Int64)) + y1))), .second, .val (.ref r), .val (.int (3 : Int32)), .val (.int (((0 : Int32) + (1 : Int32)) + (1 : Int32))), .val (.long y1), .second] [(.ref r)]))
  refine own_go (fun _ => XS.iload X2.here hx rfl (hb hby d4_21) rfl) ?_
  show own_Go p e below _ (T2.setTop (mkF m 23 #[.val (.ref r), .val (.long (own_stirred (((own_stirred ((((3 : Int32).toInt64) * (-7046029254386353131 : Int64)) + y0)) * (-7046029254386353131 : Int64)) + y1))), .second, .val (.ref r), .val (.int (3 : Int32)), .val (.int (((0 : Int32) + (1 : Int32)) + (1 : Int32))), .val (.long y1), .second] [(.int (((0 : Int32) + (1 : Int32)) + (1 : Int32))), (.ref r)]))
  refine own_go (own_ldJ X2 hx hZ e2 av (g := (mkF m 23 #[.val (.ref r), .val (.long (own_stirred (((own_stirred ((((3 : Int32).toInt64) * (-7046029254386353131 : Int64)) + y0)) * (-7046029254386353131 : Int64)) + y1))), .second, .val (.ref r), .val (.int (3 : Int32)), .val (.int (((0 : Int32) + (1 : Int32)) + (1 : Int32))), .val (.long y1), .second] [(.int (((0 : Int32) + (1 : Int32)) + (1 : Int32))), (.ref r)])) rfl rfl (hb hby d4_23) 2 (by decide) (x := (.long y2)) rfl) ?_
  show own_Go p e below _ (T2.setTop (mkF m 24 #[.val (.ref r), .val (.long (own_stirred (((own_stirred ((((3 : Int32).toInt64) * (-7046029254386353131 : Int64)) + y0)) * (-7046029254386353131 : Int64)) + y1))), .second, .val (.ref r), .val (.int (3 : Int32)), .val (.int (((0 : Int32) + (1 : Int32)) + (1 : Int32))), .val (.long y1), .second] [(.long y2)]))
  refine own_go (fun _ => XT.lstore X2.here hx rfl (hb hby d4_24) rfl (l' := #[.val (.ref r), .val (.long (own_stirred (((own_stirred ((((3 : Int32).toInt64) * (-7046029254386353131 : Int64)) + y0)) * (-7046029254386353131 : Int64)) + y1))), .second, .val (.ref r), .val (.int (3 : Int32)), .val (.int (((0 : Int32) + (1 : Int32)) + (1 : Int32))), .val (.long y2), .second]) rfl) ?_
  show own_Go p e below _ (T2.setTop (mkF m 26 #[.val (.ref r), .val (.long (own_stirred (((own_stirred ((((3 : Int32).toInt64) * (-7046029254386353131 : Int64)) + y0)) * (-7046029254386353131 : Int64)) + y1))), .second, .val (.ref r), .val (.int (3 : Int32)), .val (.int (((0 : Int32) + (1 : Int32)) + (1 : Int32))), .val (.long y2), .second] []))
  refine own_go (fun _ => XT.lloadN X2.here hx rfl (hb hby d4_26) rfl) ?_
  show own_Go p e below _ (T2.setTop (mkF m 27 #[.val (.ref r), .val (.long (own_stirred (((own_stirred ((((3 : Int32).toInt64) * (-7046029254386353131 : Int64)) + y0)) * (-7046029254386353131 : Int64)) + y1))), .second, .val (.ref r), .val (.int (3 : Int32)), .val (.int (((0 : Int32) + (1 : Int32)) + (1 : Int32))), .val (.long y2), .second] [(.long (own_stirred (((own_stirred ((((3 : Int32).toInt64) * (-7046029254386353131 : Int64)) + y0)) * (-7046029254386353131 : Int64)) + y1)))]))
  refine own_go (X2.ldc2Long hx hown (mvT hZ (hw _ (List.mem_of_getElem? (i := 27) rfl))) (g := (mkF m 27 #[.val (.ref r), .val (.long (own_stirred (((own_stirred ((((3 : Int32).toInt64) * (-7046029254386353131 : Int64)) + y0)) * (-7046029254386353131 : Int64)) + y1))), .second, .val (.ref r), .val (.int (3 : Int32)), .val (.int (((0 : Int32) + (1 : Int32)) + (1 : Int32))), .val (.long y2), .second] [(.long (own_stirred (((own_stirred ((((3 : Int32).toInt64) * (-7046029254386353131 : Int64)) + y0)) * (-7046029254386353131 : Int64)) + y1)))])) rfl (hb hby d4_27)) ?_
  show own_Go p e below _ (T2.setTop (mkF m 30 #[.val (.ref r), .val (.long (own_stirred (((own_stirred ((((3 : Int32).toInt64) * (-7046029254386353131 : Int64)) + y0)) * (-7046029254386353131 : Int64)) + y1))), .second, .val (.ref r), .val (.int (3 : Int32)), .val (.int (((0 : Int32) + (1 : Int32)) + (1 : Int32))), .val (.long y2), .second] [(.long (-7046029254386353131 : Int64)), (.long (own_stirred (((own_stirred ((((3 : Int32).toInt64) * (-7046029254386353131 : Int64)) + y0)) * (-7046029254386353131 : Int64)) + y1)))]))
  refine own_go (fun _ => XT.lmul X2.here hx rfl (hb hby d4_30) rfl) ?_
  show own_Go p e below _ (T2.setTop (mkF m 31 #[.val (.ref r), .val (.long (own_stirred (((own_stirred ((((3 : Int32).toInt64) * (-7046029254386353131 : Int64)) + y0)) * (-7046029254386353131 : Int64)) + y1))), .second, .val (.ref r), .val (.int (3 : Int32)), .val (.int (((0 : Int32) + (1 : Int32)) + (1 : Int32))), .val (.long y2), .second] [(.long ((own_stirred (((own_stirred ((((3 : Int32).toInt64) * (-7046029254386353131 : Int64)) + y0)) * (-7046029254386353131 : Int64)) + y1)) * (-7046029254386353131 : Int64)))]))
  refine own_go (fun _ => XT.lload X2.here hx rfl (hb hby d4_31) rfl) ?_
  show own_Go p e below _ (T2.setTop (mkF m 33 #[.val (.ref r), .val (.long (own_stirred (((own_stirred ((((3 : Int32).toInt64) * (-7046029254386353131 : Int64)) + y0)) * (-7046029254386353131 : Int64)) + y1))), .second, .val (.ref r), .val (.int (3 : Int32)), .val (.int (((0 : Int32) + (1 : Int32)) + (1 : Int32))), .val (.long y2), .second] [(.long y2), (.long ((own_stirred (((own_stirred ((((3 : Int32).toInt64) * (-7046029254386353131 : Int64)) + y0)) * (-7046029254386353131 : Int64)) + y1)) * (-7046029254386353131 : Int64)))]))
  refine own_go (fun _ => XT.ladd X2.here hx rfl (hb hby d4_33) rfl) ?_
  show own_Go p e below _ (T2.setTop (mkF m 34 #[.val (.ref r), .val (.long (own_stirred (((own_stirred ((((3 : Int32).toInt64) * (-7046029254386353131 : Int64)) + y0)) * (-7046029254386353131 : Int64)) + y1))), .second, .val (.ref r), .val (.int (3 : Int32)), .val (.int (((0 : Int32) + (1 : Int32)) + (1 : Int32))), .val (.long y2), .second] [(.long (((own_stirred (((own_stirred ((((3 : Int32).toInt64) * (-7046029254386353131 : Int64)) + y0)) * (-7046029254386353131 : Int64)) + y1)) * (-7046029254386353131 : Int64)) + y2))]))
  obtain ⟨T3, X3, e3, st3⟩ := own_callSP X2 hx hZ hown (argsL := [(.long (((own_stirred (((own_stirred ((((3 : Int32).toInt64) * (-7046029254386353131 : Int64)) + y0)) * (-7046029254386353131 : Int64)) + y1)) * (-7046029254386353131 : Int64)) + y2))]) (rest := []) (own_stirred_con l Z a0 hw (((own_stirred (((own_stirred ((((3 : Int32).toInt64) * (-7046029254386353131 : Int64)) + y0)) * (-7046029254386353131 : Int64)) + y1)) * (-7046029254386353131 : Int64)) + y2) h0 []) e2 (hw _ (List.mem_of_getElem? (i := 28) rfl)) (hw _ (List.mem_of_getElem? (i := 29) rfl)) (hw _ (List.mem_of_getElem? (i := 9) rfl)) (hw _ (List.mem_of_getElem? (i := 30) rfl)) (by decide) (by decide +kernel : parseMethodDescriptor "(J)J" = some ⟨[.long], some .long⟩) rfl (g := (mkF m 34 #[.val (.ref r), .val (.long (own_stirred (((own_stirred ((((3 : Int32).toInt64) * (-7046029254386353131 : Int64)) + y0)) * (-7046029254386353131 : Int64)) + y1))), .second, .val (.ref r), .val (.int (3 : Int32)), .val (.int (((0 : Int32) + (1 : Int32)) + (1 : Int32))), .val (.long y2), .second] [(.long (((own_stirred (((own_stirred ((((3 : Int32).toInt64) * (-7046029254386353131 : Int64)) + y0)) * (-7046029254386353131 : Int64)) + y1)) * (-7046029254386353131 : Int64)) + y2))])) rfl (by rw [hml]; rfl) rfl 0 (by show 2 * 0 + _ ≤ _; exact Nat.le_of_eq rfl) (hb hby d4_34) (by decide) (by decide) rfl rfl (by decide) (by decide)
  refine own_go st3 ?_
  show own_Go p e below _ (T3.setTop (mkF m 37 #[.val (.ref r), .val (.long (own_stirred (((own_stirred ((((3 : Int32).toInt64) * (-7046029254386353131 : Int64)) + y0)) * (-7046029254386353131 : Int64)) + y1))), .second, .val (.ref r), .val (.int (3 : Int32)), .val (.int (((0 : Int32) + (1 : Int32)) + (1 : Int32))), .val (.long y2), .second] [(.long (own_stirred (((own_stirred (((own_stirred ((((3 : Int32).toInt64) * (-7046029254386353131 : Int64)) + y0)) * (-7046029254386353131 : Int64)) + y1)) * (-7046029254386353131 : Int64)) + y2)))]))
  refine own_go (fun _ => XT.lstoreN X3.here hx rfl (hb hby d4_37) rfl (l' := #[.val (.ref r), .val (.long (own_stirred (((own_stirred (((own_stirred ((((3 : Int32).toInt64) * (-7046029254386353131 : Int64)) + y0)) * (-7046029254386353131 : Int64)) + y1)) * (-7046029254386353131 : Int64)) + y2))), .second, .val (.ref r), .val (.int (3 : Int32)), .val (.int (((0 : Int32) + (1 : Int32)) + (1 : Int32))), .val (.long y2), .second]) rfl) ?_
  show own_Go p e below _ (T3.setTop (mkF m 38 #[.val (.ref r), .val (.long (own_stirred (((own_stirred (((own_stirred ((((3 : Int32).toInt64) * (-7046029254386353131 : Int64)) + y0)) * (-7046029254386353131 : Int64)) + y1)) * (-7046029254386353131 : Int64)) + y2))), .second, .val (.ref r), .val (.int (3 : Int32)), .val (.int (((0 : Int32) + (1 : Int32)) + (1 : Int32))), .val (.long y2), .second] []))
  refine own_go (fun _ => XT.iincV X3.here hx rfl (1 : Int32) (hb hby d4_38) rfl rfl (l' := #[.val (.ref r), .val (.long (own_stirred (((own_stirred (((own_stirred ((((3 : Int32).toInt64) * (-7046029254386353131 : Int64)) + y0)) * (-7046029254386353131 : Int64)) + y1)) * (-7046029254386353131 : Int64)) + y2))), .second, .val (.ref r), .val (.int (3 : Int32)), .val (.int ((((0 : Int32) + (1 : Int32)) + (1 : Int32)) + (1 : Int32))), .val (.long y2), .second]) rfl) ?_
  show own_Go p e below _ (T3.setTop (mkF m 41 #[.val (.ref r), .val (.long (own_stirred (((own_stirred (((own_stirred ((((3 : Int32).toInt64) * (-7046029254386353131 : Int64)) + y0)) * (-7046029254386353131 : Int64)) + y1)) * (-7046029254386353131 : Int64)) + y2))), .second, .val (.ref r), .val (.int (3 : Int32)), .val (.int ((((0 : Int32) + (1 : Int32)) + (1 : Int32)) + (1 : Int32))), .val (.long y2), .second] []))
  refine own_go (fun _ => XS.goto X3.here hx rfl (pc0 := 41) (pc' := 13) rfl (hb hby d4_41) (by decide) (by decide)) ?_
  show own_Go p e below _ (T3.setTop (mkF m 13 #[.val (.ref r), .val (.long (own_stirred (((own_stirred (((own_stirred ((((3 : Int32).toInt64) * (-7046029254386353131 : Int64)) + y0)) * (-7046029254386353131 : Int64)) + y1)) * (-7046029254386353131 : Int64)) + y2))), .second, .val (.ref r), .val (.int (3 : Int32)), .val (.int ((((0 : Int32) + (1 : Int32)) + (1 : Int32)) + (1 : Int32))), .val (.long y2), .second] []))
  refine own_go (fun _ => XS.iload X3.here hx rfl (hb hby d4_13) rfl) ?_
  show own_Go p e below _ (T3.setTop (mkF m 15 #[.val (.ref r), .val (.long (own_stirred (((own_stirred (((own_stirred ((((3 : Int32).toInt64) * (-7046029254386353131 : Int64)) + y0)) * (-7046029254386353131 : Int64)) + y1)) * (-7046029254386353131 : Int64)) + y2))), .second, .val (.ref r), .val (.int (3 : Int32)), .val (.int ((((0 : Int32) + (1 : Int32)) + (1 : Int32)) + (1 : Int32))), .val (.long y2), .second] [(.int ((((0 : Int32) + (1 : Int32)) + (1 : Int32)) + (1 : Int32)))]))
  refine own_go (fun _ => XS.iload X3.here hx rfl (hb hby d4_15) rfl) ?_
  show own_Go p e below _ (T3.setTop (mkF m 17 #[.val (.ref r), .val (.long (own_stirred (((own_stirred (((own_stirred ((((3 : Int32).toInt64) * (-7046029254386353131 : Int64)) + y0)) * (-7046029254386353131 : Int64)) + y1)) * (-7046029254386353131 : Int64)) + y2))), .second, .val (.ref r), .val (.int (3 : Int32)), .val (.int ((((0 : Int32) + (1 : Int32)) + (1 : Int32)) + (1 : Int32))), .val (.long y2), .second] [(.int (3 : Int32)), (.int ((((0 : Int32) + (1 : Int32)) + (1 : Int32)) + (1 : Int32)))]))
  refine own_go (fun _ => XS.icmpYes X3.here hx rfl (pc0 := 17) (pc' := 44) rfl (hb hby d4_17) rfl (XT.ii_ge_t (by decide)) (by decide) (by decide)) ?_
  show own_Go p e below _ (T3.setTop (mkF m 44 #[.val (.ref r), .val (.long (own_stirred (((own_stirred (((own_stirred ((((3 : Int32).toInt64) * (-7046029254386353131 : Int64)) + y0)) * (-7046029254386353131 : Int64)) + y1)) * (-7046029254386353131 : Int64)) + y2))), .second, .val (.ref r), .val (.int (3 : Int32)), .val (.int ((((0 : Int32) + (1 : Int32)) + (1 : Int32)) + (1 : Int32))), .val (.long y2), .second] []))
  refine own_go (fun _ => XT.lloadN X3.here hx rfl (hb hby d4_44) rfl) ?_
  show own_Go p e below _ (T3.setTop (mkF m 45 #[.val (.ref r), .val (.long (own_stirred (((own_stirred (((own_stirred ((((3 : Int32).toInt64) * (-7046029254386353131 : Int64)) + y0)) * (-7046029254386353131 : Int64)) + y1)) * (-7046029254386353131 : Int64)) + y2))), .second, .val (.ref r), .val (.int (3 : Int32)), .val (.int ((((0 : Int32) + (1 : Int32)) + (1 : Int32)) + (1 : Int32))), .val (.long y2), .second] [(.long (own_stirred (((own_stirred (((own_stirred ((((3 : Int32).toInt64) * (-7046029254386353131 : Int64)) + y0)) * (-7046029254386353131 : Int64)) + y1)) * (-7046029254386353131 : Int64)) + y2)))]))
  refine own_go (fun _ => XT.lconst X3.here hx rfl (hb hby d4_45)) ?_
  show own_Go p e below _ (T3.setTop (mkF m 46 #[.val (.ref r), .val (.long (own_stirred (((own_stirred (((own_stirred ((((3 : Int32).toInt64) * (-7046029254386353131 : Int64)) + y0)) * (-7046029254386353131 : Int64)) + y1)) * (-7046029254386353131 : Int64)) + y2))), .second, .val (.ref r), .val (.int (3 : Int32)), .val (.int ((((0 : Int32) + (1 : Int32)) + (1 : Int32)) + (1 : Int32))), .val (.long y2), .second] [(.long (1 : Int64)), (.long (own_stirred (((own_stirred (((own_stirred ((((3 : Int32).toInt64) * (-7046029254386353131 : Int64)) + y0)) * (-7046029254386353131 : Int64)) + y1)) * (-7046029254386353131 : Int64)) + y2)))]))
  refine own_go (fun _ => XT.lor X3.here hx rfl (hb hby d4_46) rfl) ?_
  show own_Go p e below _ (T3.setTop (mkF m 47 #[.val (.ref r), .val (.long (own_stirred (((own_stirred (((own_stirred ((((3 : Int32).toInt64) * (-7046029254386353131 : Int64)) + y0)) * (-7046029254386353131 : Int64)) + y1)) * (-7046029254386353131 : Int64)) + y2))), .second, .val (.ref r), .val (.int (3 : Int32)), .val (.int ((((0 : Int32) + (1 : Int32)) + (1 : Int32)) + (1 : Int32))), .val (.long y2), .second] [(.long ((own_stirred (((own_stirred (((own_stirred ((((3 : Int32).toInt64) * (-7046029254386353131 : Int64)) + y0)) * (-7046029254386353131 : Int64)) + y1)) * (-7046029254386353131 : Int64)) + y2)) ||| (1 : Int64)))]))
  exact own_lret X3 hx hlk hret (hb hby d4_47) (Nat.zero_le _) (Nat.zero_le _) ⟨rfl, e3, rfl⟩
theorem own_or1 (x : Int64) : x ||| (1 : Int64) ≠ 0 := fun h => by
  have q := congrArg (fun z : Int64 => z.toBitVec.getLsbD 0) h
  simp [Int64.toBitVec_or] at q
theorem own_mark_ne (y0 y1 y2 : Int64) : own_mark y0 y1 y2 ≠ 0 := own_or1 _
/-- a Runs at a, its three arrays at rr, mm, hh -/
def own_Runs (Z : State) (h : Heap) (a rr mm hh : Addr) (us ms hs : List Value) (k pr ch : Int32) : Prop :=
  (Exa Z h a "tidemark/io/Runs" ∧ Exa Z h rr "[J" ∧ own_AV Z h rr .long us ∧ own_AV Z h mm .long ms ∧ own_AV Z h hh .long hs) ∧
  (Fld Z h a "tidemark/io/Runs" "self" "I" (.int (0 : Int32)) ∧ Fld Z h a "tidemark/io/Runs" "runs" "[J" (.ref rr) ∧ Fld Z h a "tidemark/io/Runs" "marks" "[J" (.ref mm) ∧ Fld Z h a "tidemark/io/Runs" "marked" "I" (.int k) ∧ Fld Z h a "tidemark/io/Runs" "heard" "[J" (.ref hh) ∧ Fld Z h a "tidemark/io/Runs" "preceded" "Z" (.int pr) ∧ Fld Z h a "tidemark/io/Runs" "chosen" "Z" (.int ch)) ∧
  (a ≠ rr ∧ a ≠ mm ∧ a ≠ hh ∧ rr ≠ mm ∧ rr ≠ hh ∧ mm ≠ hh)
theorem d2_0 : decode prog_25_method_1_code 0 = .ok (.aload_n 0, 1) := by decide +kernel
theorem d2_1 : decode prog_25_method_1_code 1 = .ok (.invokespecial 1, 3) := by decide +kernel
theorem d2_4 : decode prog_25_method_1_code 4 = .ok (.lload_n 3, 1) := by decide +kernel
theorem d2_5 : decode prog_25_method_1_code 5 = .ok (.lconst 0, 1) := by decide +kernel
theorem d2_6 : decode prog_25_method_1_code 6 = .ok (.lcmp, 1) := by decide +kernel
theorem d2_7 : decode prog_25_method_1_code 7 = .ok (.ifCond .gt 17, 3) := by decide +kernel
theorem d2_24 : decode prog_25_method_1_code 24 = .ok (.aload_n 0, 1) := by decide +kernel
theorem d2_25 : decode prog_25_method_1_code 25 = .ok (.iload_n 1, 1) := by decide +kernel
theorem d2_26 : decode prog_25_method_1_code 26 = .ok (.putfield 16, 3) := by decide +kernel
theorem d2_29 : decode prog_25_method_1_code 29 = .ok (.aload_n 0, 1) := by decide +kernel
theorem d2_30 : decode prog_25_method_1_code 30 = .ok (.iload_n 2, 1) := by decide +kernel
theorem d2_31 : decode prog_25_method_1_code 31 = .ok (.newarray .long, 2) := by decide +kernel
theorem d2_33 : decode prog_25_method_1_code 33 = .ok (.putfield 22, 3) := by decide +kernel
theorem d2_36 : decode prog_25_method_1_code 36 = .ok (.aload_n 0, 1) := by decide +kernel
theorem d2_37 : decode prog_25_method_1_code 37 = .ok (.getfield 22, 3) := by decide +kernel
theorem d2_40 : decode prog_25_method_1_code 40 = .ok (.iload_n 1, 1) := by decide +kernel
theorem d2_41 : decode prog_25_method_1_code 41 = .ok (.lload_n 3, 1) := by decide +kernel
theorem d2_42 : decode prog_25_method_1_code 42 = .ok (.lastore, 1) := by decide +kernel
theorem d2_43 : decode prog_25_method_1_code 43 = .ok (.aload_n 0, 1) := by decide +kernel
theorem d2_44 : decode prog_25_method_1_code 44 = .ok (.iload_n 2, 1) := by decide +kernel
theorem d2_45 : decode prog_25_method_1_code 45 = .ok (.newarray .long, 2) := by decide +kernel
theorem d2_47 : decode prog_25_method_1_code 47 = .ok (.putfield 26, 3) := by decide +kernel
theorem d2_50 : decode prog_25_method_1_code 50 = .ok (.aload_n 0, 1) := by decide +kernel
theorem d2_51 : decode prog_25_method_1_code 51 = .ok (.getfield 26, 3) := by decide +kernel
theorem d2_54 : decode prog_25_method_1_code 54 = .ok (.aload_n 0, 1) := by decide +kernel
theorem d2_55 : decode prog_25_method_1_code 55 = .ok (.dup, 1) := by decide +kernel
theorem d2_56 : decode prog_25_method_1_code 56 = .ok (.getfield 29, 3) := by decide +kernel
theorem d2_59 : decode prog_25_method_1_code 59 = .ok (.dup_x1, 1) := by decide +kernel
theorem d2_60 : decode prog_25_method_1_code 60 = .ok (.iconst 1, 1) := by decide +kernel
theorem d2_61 : decode prog_25_method_1_code 61 = .ok (.iadd, 1) := by decide +kernel
theorem d2_62 : decode prog_25_method_1_code 62 = .ok (.putfield 29, 3) := by decide +kernel
theorem d2_65 : decode prog_25_method_1_code 65 = .ok (.aload_n 0, 1) := by decide +kernel
theorem d2_66 : decode prog_25_method_1_code 66 = .ok (.getfield 22, 3) := by decide +kernel
theorem d2_69 : decode prog_25_method_1_code 69 = .ok (.invokestatic 32, 3) := by decide +kernel
theorem d2_72 : decode prog_25_method_1_code 72 = .ok (.lastore, 1) := by decide +kernel
theorem d2_73 : decode prog_25_method_1_code 73 = .ok (.aload_n 0, 1) := by decide +kernel
theorem d2_74 : decode prog_25_method_1_code 74 = .ok (.iload_n 2, 1) := by decide +kernel
theorem d2_75 : decode prog_25_method_1_code 75 = .ok (.newarray .long, 2) := by decide +kernel
theorem d2_77 : decode prog_25_method_1_code 77 = .ok (.putfield 36, 3) := by decide +kernel
theorem d2_80 : decode prog_25_method_1_code 80 = .ok (.return_, 1) := by decide +kernel
set_option maxRecDepth 65536 in
set_option maxHeartbeats 40000000 in
theorem own_init_con (l : Launch) (Z : State) (a0 : Array Value) (hw : ∀ d ∈ tables_1, d.before a0 Z = true) (a : Addr) (r0 : Int64) (n0 : Nat) (h0 : Heap) (o_E0 : Exa Z h0 a "tidemark/io/Runs") (o_self0 : Fld Z h0 a "tidemark/io/Runs" "self" "I" (.int (0 : Int32))) (o_runs0 : Fld Z h0 a "tidemark/io/Runs" "runs" "[J" .null) (o_marks0 : Fld Z h0 a "tidemark/io/Runs" "marks" "[J" .null) (o_marked0 : Fld Z h0 a "tidemark/io/Runs" "marked" "I" (.int (0 : Int32))) (o_heard0 : Fld Z h0 a "tidemark/io/Runs" "heard" "[J" .null) (o_preceded0 : Fld Z h0 a "tidemark/io/Runs" "preceded" "Z" (.int (0 : Int32))) (o_chosen0 : Fld Z h0 a "tidemark/io/Runs" "chosen" "Z" (.int (0 : Int32))) (hr : 0 < r0) (ga : n0 ≤ a) (gn : n0 ≤ h0.size) (ws : List Jvm.Cond) :
    own_Con l Z (⟨"tidemark/io/Runs", "<init>", "(IIJ)V"⟩ : MethodName) prog_25_method_1_code 5 none ({ frames := 2, cells := 3, slots := 9, locals := 80 } : Room) #[(.ref a), (.int (0 : Int32)), (.int (3 : Int32)), (.long r0)] h0 (fun v h L => v = none ∧ Fr n0 L ∧ Keep h0 h [a] ∧ ∃ rr mm hh, own_Runs Z h a rr mm hh [.long r0, .long 0, .long 0] [.long (own_mark r0 0 0), .long 0, .long 0] [.long 0, .long 0, .long 0] 1 0 0 ∧ h0.size ≤ rr ∧ h0.size ≤ mm ∧ h0.size ≤ hh) ws := by
  refine own_con (F := fun m => (mkF m 0 #[.val (.ref a), .val (.int (0 : Int32)), .val (.int (3 : Int32)), .val (.long r0), .second] [])) (own_pn (by first | (simp [plainName, overriddenIn]; done) | decide +kernel)) (fun m => by first | (simp [entryFrame, mkF, argsToLocals, Value.category]; done) | rfl) ?_
  intro p e s m below meth c T X hx hby hml hZ hown hnm hret hlk eT
  show own_Go p e below (own_Out s (fun v h L => v = none ∧ Fr n0 L ∧ Keep h0 h [a] ∧ ∃ rr mm hh, own_Runs Z h a rr mm hh [.long r0, .long 0, .long 0] [.long (own_mark r0 0 0), .long 0, .long 0] [.long 0, .long 0, .long 0] 1 0 0 ∧ h0.size ≤ rr ∧ h0.size ≤ mm ∧ h0.size ≤ hh) ({ frames := 2, cells := 3, slots := 9, locals := 80 } : Room).cells ({ frames := 2, cells := 3, slots := 9, locals := 80 } : Room).slots) (T.setTop (mkF m 0 #[.val (.ref a), .val (.int (0 : Int32)), .val (.int (3 : Int32)), .val (.long r0), .second] []))
  have N0 := Fr.nil n0
  have K0 := Keep.refl h0 [a]
  refine own_go (fun _ => XS.aloadN X.here hx rfl (hb hby d2_0) rfl rfl) ?_
  show own_Go p e below _ (T.setTop (mkF m 1 #[.val (.ref a), .val (.int (0 : Int32)), .val (.int (3 : Int32)), .val (.long r0), .second] [(.ref a)]))
  obtain ⟨T1, X1, e1, st1⟩ := initO X hx hZ hown (hw _ (List.mem_of_getElem? (i := 13) rfl)) (hw _ (List.mem_of_getElem? (i := 14) rfl)) (hw _ (List.mem_of_getElem? (i := 15) rfl)) eT (g := (mkF m 1 #[.val (.ref a), .val (.int (0 : Int32)), .val (.int (3 : Int32)), .val (.long r0), .second] [(.ref a)])) rfl (by rw [hml]; rfl) rfl (hb hby d2_1) (by decide) (W := 0) (by show 2 * 0 + _ ≤ _; exact Nat.le_of_eq rfl) (by decide)
  refine own_go st1 ?_
  show own_Go p e below _ (T1.setTop (mkF m 4 #[.val (.ref a), .val (.int (0 : Int32)), .val (.int (3 : Int32)), .val (.long r0), .second] []))
  refine own_go (fun _ => XT.lloadN X1.here hx rfl (hb hby d2_4) rfl) ?_
  show own_Go p e below _ (T1.setTop (mkF m 5 #[.val (.ref a), .val (.int (0 : Int32)), .val (.int (3 : Int32)), .val (.long r0), .second] [(.long r0)]))
  refine own_go (fun _ => XT.lconst X1.here hx rfl (hb hby d2_5)) ?_
  show own_Go p e below _ (T1.setTop (mkF m 6 #[.val (.ref a), .val (.int (0 : Int32)), .val (.int (3 : Int32)), .val (.long r0), .second] [(.long (0 : Int64)), (.long r0)]))
  refine own_go (fun _ => XT.lcmp X1.here hx rfl (hb hby d2_6) rfl) ?_
  show own_Go p e below _ (T1.setTop (mkF m 7 #[.val (.ref a), .val (.int (0 : Int32)), .val (.int (3 : Int32)), .val (.long r0), .second] [(.int (XT.cmpL r0 (0 : Int64)))]))
  refine own_go (fun _ => XS.ifYes X1.here hx rfl (pc0 := 7) (pc' := 24) rfl (hb hby d2_7) rfl (XT.ll_gt_t hr) (by decide) (by decide)) ?_
  show own_Go p e below _ (T1.setTop (mkF m 24 #[.val (.ref a), .val (.int (0 : Int32)), .val (.int (3 : Int32)), .val (.long r0), .second] []))
  refine own_go (fun _ => XS.aloadN X1.here hx rfl (hb hby d2_24) rfl rfl) ?_
  show own_Go p e below _ (T1.setTop (mkF m 25 #[.val (.ref a), .val (.int (0 : Int32)), .val (.int (3 : Int32)), .val (.long r0), .second] [(.ref a)]))
  refine own_go (fun _ => XS.iloadN X1.here hx rfl (hb hby d2_25) rfl) ?_
  show own_Go p e below _ (T1.setTop (mkF m 26 #[.val (.ref a), .val (.int (0 : Int32)), .val (.int (3 : Int32)), .val (.long r0), .second] [(.int (0 : Int32)), (.ref a)]))
  obtain ⟨T2, h2, X2, e2, W2, st2⟩ := putF X1 hx hZ hown (host := "") (Or.inl (hw _ (List.mem_of_getElem? (i := 16) rfl))) Via.refl e1 o_self0 o_E0 (Or.inr ⟨(hw _ (List.mem_of_getElem? (i := 17) rfl)), rfl, hnm⟩) (hw _ (List.mem_of_getElem? (i := 8) rfl)) (ty := .int) (by decide) rfl rfl (g := (mkF m 26 #[.val (.ref a), .val (.int (0 : Int32)), .val (.int (3 : Int32)), .val (.long r0), .second] [(.int (0 : Int32)), (.ref a)])) rfl rfl (hb hby d2_26)
  have N2 := Fr.snoc X2 N0 ga
  have o_E_2 := o_E0.wr W2
  have o_self_2 := o_self0.same W2
  have o_runs_2 := o_runs0.other W2 (Or.inr (slot_ne (t := (.array .long)) (t' := .int) (Or.inr (hw _ (List.mem_of_getElem? (i := 19) rfl))) (Or.inr (hw _ (List.mem_of_getElem? (i := 17) rfl))) (by decide) (by decide) (by decide)))
  have o_marks_2 := o_marks0.other W2 (Or.inr (slot_ne (t := (.array .long)) (t' := .int) (Or.inr (hw _ (List.mem_of_getElem? (i := 21) rfl))) (Or.inr (hw _ (List.mem_of_getElem? (i := 17) rfl))) (by decide) (by decide) (by decide)))
  have o_marked_2 := o_marked0.other W2 (Or.inr (slot_ne (t := .int) (t' := .int) (Or.inl (hw _ (List.mem_of_getElem? (i := 23) rfl))) (Or.inr (hw _ (List.mem_of_getElem? (i := 17) rfl))) (by decide) (by decide) (by decide)))
  have o_heard_2 := o_heard0.other W2 (Or.inr (slot_ne (t := (.array .long)) (t' := .int) (Or.inr (hw _ (List.mem_of_getElem? (i := 34) rfl))) (Or.inr (hw _ (List.mem_of_getElem? (i := 17) rfl))) (by decide) (by decide) (by decide)))
  have o_preceded_2 := o_preceded0.other W2 (Or.inr (slot_ne (t := .boolean) (t' := .int) (Or.inl (hw _ (List.mem_of_getElem? (i := 41) rfl))) (Or.inr (hw _ (List.mem_of_getElem? (i := 17) rfl))) (by decide) (by decide) (by decide)))
  have o_chosen_2 := o_chosen0.other W2 (Or.inr (slot_ne (t := .boolean) (t' := .int) (Or.inl (hw _ (List.mem_of_getElem? (i := 43) rfl))) (Or.inr (hw _ (List.mem_of_getElem? (i := 17) rfl))) (by decide) (by decide) (by decide)))
  have K2 := K0.wr W2 (Or.inl (List.mem_of_getElem? (i := 0) rfl))
  refine own_go st2 ?_
  show own_Go p e below _ (T2.setTop (mkF m 29 #[.val (.ref a), .val (.int (0 : Int32)), .val (.int (3 : Int32)), .val (.long r0), .second] []))
  refine own_go (fun _ => XS.aloadN X2.here hx rfl (hb hby d2_29) rfl rfl) ?_
  show own_Go p e below _ (T2.setTop (mkF m 30 #[.val (.ref a), .val (.int (0 : Int32)), .val (.int (3 : Int32)), .val (.long r0), .second] [(.ref a)]))
  refine own_go (fun _ => XS.iloadN X2.here hx rfl (hb hby d2_30) rfl) ?_
  show own_Go p e below _ (T2.setTop (mkF m 31 #[.val (.ref a), .val (.int (0 : Int32)), .val (.int (3 : Int32)), .val (.long r0), .second] [(.int (3 : Int32)), (.ref a)]))
  obtain ⟨T3, h3, X3, e3, E3, A3, C3, st3⟩ := own_newAE X2 hx hZ (aty := .long) (hw _ (List.mem_of_getElem? (i := 1) rfl)) e2 (g := (mkF m 31 #[.val (.ref a), .val (.int (0 : Int32)), .val (.int (3 : Int32)), .val (.long r0), .second] [(.int (3 : Int32)), (.ref a)])) rfl (hb hby d2_31) rfl 3 3 (by decide) (by decide) (by decide) (by decide) (by decide) (ad := "[J") (by first | rfl | decide)
  obtain ⟨a3, q3⟩ : ∃ z, z = h2.size := ⟨_, rfl⟩
  rw [← q3] at A3 C3 st3
  have ne_a_a3 : a ≠ a3 := fun z => absurd o_E_2.lt (by rw [z, q3]; exact Nat.lt_irrefl _)
  have o_E_3 := o_E_2.ext E3
  have o_self_3 := o_self_2.ext E3
  have o_runs_3 := o_runs_2.ext E3
  have o_marks_3 := o_marks_2.ext E3
  have o_marked_3 := o_marked_2.ext E3
  have o_heard_3 := o_heard_2.ext E3
  have o_preceded_3 := o_preceded_2.ext E3
  have o_chosen_3 := o_chosen_2.ext E3
  have K3 := K2.ext E3
  refine own_go st3 ?_
  show own_Go p e below _ (T3.setTop (mkF m 33 #[.val (.ref a), .val (.int (0 : Int32)), .val (.int (3 : Int32)), .val (.long r0), .second] [(.ref a3), (.ref a)]))
  have g_a3 : h0.size ≤ a3 := by rw [q3]; exact K2.1
  obtain ⟨T4, h4, X4, e4, W4, st4⟩ := putF X3 hx hZ hown (host := "") (Or.inl (hw _ (List.mem_of_getElem? (i := 18) rfl))) Via.refl e3 o_runs_3 o_E_3 (Or.inr ⟨(hw _ (List.mem_of_getElem? (i := 19) rfl)), rfl, hnm⟩) (hw _ (List.mem_of_getElem? (i := 8) rfl)) (ty := (.array .long)) (by decide) rfl rfl (g := (mkF m 33 #[.val (.ref a), .val (.int (0 : Int32)), .val (.int (3 : Int32)), .val (.long r0), .second] [(.ref a3), (.ref a)])) rfl rfl (hb hby d2_33)
  have N4 := Fr.snoc X4 N2 ga
  have o_E_4 := o_E_3.wr W4
  have o_self_4 := o_self_3.other W4 (Or.inr (slot_ne (t := .int) (t' := (.array .long)) (Or.inr (hw _ (List.mem_of_getElem? (i := 17) rfl))) (Or.inr (hw _ (List.mem_of_getElem? (i := 19) rfl))) (by decide) (by decide) (by decide)))
  have o_runs_4 := o_runs_3.same W4
  have o_marks_4 := o_marks_3.other W4 (Or.inr (slot_ne (t := (.array .long)) (t' := (.array .long)) (Or.inr (hw _ (List.mem_of_getElem? (i := 21) rfl))) (Or.inr (hw _ (List.mem_of_getElem? (i := 19) rfl))) (by decide) (by decide) (by decide)))
  have o_marked_4 := o_marked_3.other W4 (Or.inr (slot_ne (t := .int) (t' := (.array .long)) (Or.inl (hw _ (List.mem_of_getElem? (i := 23) rfl))) (Or.inr (hw _ (List.mem_of_getElem? (i := 19) rfl))) (by decide) (by decide) (by decide)))
  have o_heard_4 := o_heard_3.other W4 (Or.inr (slot_ne (t := (.array .long)) (t' := (.array .long)) (Or.inr (hw _ (List.mem_of_getElem? (i := 34) rfl))) (Or.inr (hw _ (List.mem_of_getElem? (i := 19) rfl))) (by decide) (by decide) (by decide)))
  have o_preceded_4 := o_preceded_3.other W4 (Or.inr (slot_ne (t := .boolean) (t' := (.array .long)) (Or.inl (hw _ (List.mem_of_getElem? (i := 41) rfl))) (Or.inr (hw _ (List.mem_of_getElem? (i := 19) rfl))) (by decide) (by decide) (by decide)))
  have o_chosen_4 := o_chosen_3.other W4 (Or.inr (slot_ne (t := .boolean) (t' := (.array .long)) (Or.inl (hw _ (List.mem_of_getElem? (i := 43) rfl))) (Or.inr (hw _ (List.mem_of_getElem? (i := 19) rfl))) (by decide) (by decide) (by decide)))
  have r_E_4 := C3.wr W4
  have r_A_4 := A3.other W4 (Ne.symm ne_a_a3)
  have K4 := K3.wr W4 (Or.inl (List.mem_of_getElem? (i := 0) rfl))
  refine own_go st4 ?_
  show own_Go p e below _ (T4.setTop (mkF m 36 #[.val (.ref a), .val (.int (0 : Int32)), .val (.int (3 : Int32)), .val (.long r0), .second] []))
  refine own_go (fun _ => XS.aloadN X4.here hx rfl (hb hby d2_36) rfl rfl) ?_
  show own_Go p e below _ (T4.setTop (mkF m 37 #[.val (.ref a), .val (.int (0 : Int32)), .val (.int (3 : Int32)), .val (.long r0), .second] [(.ref a)]))
  obtain ⟨T5, X5, e5, st5⟩ := getF X4 hx hZ hown (host := "") (Or.inl (hw _ (List.mem_of_getElem? (i := 18) rfl))) Via.refl e4 o_runs_4 (g := (mkF m 37 #[.val (.ref a), .val (.int (0 : Int32)), .val (.int (3 : Int32)), .val (.long r0), .second] [(.ref a)])) rfl rfl (hb hby d2_37)
  refine own_go st5 ?_
  show own_Go p e below _ (T5.setTop (mkF m 40 #[.val (.ref a), .val (.int (0 : Int32)), .val (.int (3 : Int32)), .val (.long r0), .second] [(.ref a3)]))
  refine own_go (fun _ => XS.iloadN X5.here hx rfl (hb hby d2_40) rfl) ?_
  show own_Go p e below _ (T5.setTop (mkF m 41 #[.val (.ref a), .val (.int (0 : Int32)), .val (.int (3 : Int32)), .val (.long r0), .second] [(.int (0 : Int32)), (.ref a3)]))
  refine own_go (fun _ => XT.lloadN X5.here hx rfl (hb hby d2_41) rfl) ?_
  show own_Go p e below _ (T5.setTop (mkF m 42 #[.val (.ref a), .val (.int (0 : Int32)), .val (.int (3 : Int32)), .val (.long r0), .second] [(.long r0), (.int (0 : Int32)), (.ref a3)]))
  obtain ⟨T6, h6, X6, e6, W6, A6, st6⟩ := own_stJ X5 hx hZ e5 r_A_4 (g := (mkF m 42 #[.val (.ref a), .val (.int (0 : Int32)), .val (.int (3 : Int32)), .val (.long r0), .second] [(.long r0), (.int (0 : Int32)), (.ref a3)])) rfl rfl (hb hby d2_42) 0 (by decide) (by simp)
  have N6 := Fr.snoc X6 N4 (Nat.le_trans gn g_a3)
  have o_E_6 := o_E_4.wr W6
  have o_self_6 := o_self_4.other W6 (Or.inl ne_a_a3)
  have o_runs_6 := o_runs_4.other W6 (Or.inl ne_a_a3)
  have o_marks_6 := o_marks_4.other W6 (Or.inl ne_a_a3)
  have o_marked_6 := o_marked_4.other W6 (Or.inl ne_a_a3)
  have o_heard_6 := o_heard_4.other W6 (Or.inl ne_a_a3)
  have o_preceded_6 := o_preceded_4.other W6 (Or.inl ne_a_a3)
  have o_chosen_6 := o_chosen_4.other W6 (Or.inl ne_a_a3)
  have r_E_6 := r_E_4.wr W6
  have K6 := K4.wr W6 (Or.inr g_a3)
  refine own_go st6 ?_
  show own_Go p e below _ (T6.setTop (mkF m 43 #[.val (.ref a), .val (.int (0 : Int32)), .val (.int (3 : Int32)), .val (.long r0), .second] []))
  refine own_go (fun _ => XS.aloadN X6.here hx rfl (hb hby d2_43) rfl rfl) ?_
  show own_Go p e below _ (T6.setTop (mkF m 44 #[.val (.ref a), .val (.int (0 : Int32)), .val (.int (3 : Int32)), .val (.long r0), .second] [(.ref a)]))
  refine own_go (fun _ => XS.iloadN X6.here hx rfl (hb hby d2_44) rfl) ?_
  show own_Go p e below _ (T6.setTop (mkF m 45 #[.val (.ref a), .val (.int (0 : Int32)), .val (.int (3 : Int32)), .val (.long r0), .second] [(.int (3 : Int32)), (.ref a)]))
  obtain ⟨T7, h7, X7, e7, E7, A7, C7, st7⟩ := own_newAE X6 hx hZ (aty := .long) (hw _ (List.mem_of_getElem? (i := 1) rfl)) e6 (g := (mkF m 45 #[.val (.ref a), .val (.int (0 : Int32)), .val (.int (3 : Int32)), .val (.long r0), .second] [(.int (3 : Int32)), (.ref a)])) rfl (hb hby d2_45) rfl 3 3 (by decide) (by decide) (by decide) (by decide) (by decide) (ad := "[J") (by first | rfl | decide)
  obtain ⟨a7, q7⟩ : ∃ z, z = h6.size := ⟨_, rfl⟩
  rw [← q7] at A7 C7 st7
  have ne_a_a7 : a ≠ a7 := fun z => absurd o_E_6.lt (by rw [z, q7]; exact Nat.lt_irrefl _)
  have ne_a3_a7 : a3 ≠ a7 := fun z => absurd r_E_6.lt (by rw [z, q7]; exact Nat.lt_irrefl _)
  have o_E_7 := o_E_6.ext E7
  have o_self_7 := o_self_6.ext E7
  have o_runs_7 := o_runs_6.ext E7
  have o_marks_7 := o_marks_6.ext E7
  have o_marked_7 := o_marked_6.ext E7
  have o_heard_7 := o_heard_6.ext E7
  have o_preceded_7 := o_preceded_6.ext E7
  have o_chosen_7 := o_chosen_6.ext E7
  have r_E_7 := r_E_6.ext E7
  have r_A_7 := A6.ext E7
  have K7 := K6.ext E7
  refine own_go st7 ?_
  show own_Go p e below _ (T7.setTop (mkF m 47 #[.val (.ref a), .val (.int (0 : Int32)), .val (.int (3 : Int32)), .val (.long r0), .second] [(.ref a7), (.ref a)]))
  have g_a7 : h0.size ≤ a7 := by rw [q7]; exact K6.1
  obtain ⟨T8, h8, X8, e8, W8, st8⟩ := putF X7 hx hZ hown (host := "") (Or.inl (hw _ (List.mem_of_getElem? (i := 20) rfl))) Via.refl e7 o_marks_7 o_E_7 (Or.inr ⟨(hw _ (List.mem_of_getElem? (i := 21) rfl)), rfl, hnm⟩) (hw _ (List.mem_of_getElem? (i := 8) rfl)) (ty := (.array .long)) (by decide) rfl rfl (g := (mkF m 47 #[.val (.ref a), .val (.int (0 : Int32)), .val (.int (3 : Int32)), .val (.long r0), .second] [(.ref a7), (.ref a)])) rfl rfl (hb hby d2_47)
  have N8 := Fr.snoc X8 N6 ga
  have o_E_8 := o_E_7.wr W8
  have o_self_8 := o_self_7.other W8 (Or.inr (slot_ne (t := .int) (t' := (.array .long)) (Or.inr (hw _ (List.mem_of_getElem? (i := 17) rfl))) (Or.inr (hw _ (List.mem_of_getElem? (i := 21) rfl))) (by decide) (by decide) (by decide)))
  have o_runs_8 := o_runs_7.other W8 (Or.inr (slot_ne (t := (.array .long)) (t' := (.array .long)) (Or.inr (hw _ (List.mem_of_getElem? (i := 19) rfl))) (Or.inr (hw _ (List.mem_of_getElem? (i := 21) rfl))) (by decide) (by decide) (by decide)))
  have o_marks_8 := o_marks_7.same W8
  have o_marked_8 := o_marked_7.other W8 (Or.inr (slot_ne (t := .int) (t' := (.array .long)) (Or.inl (hw _ (List.mem_of_getElem? (i := 23) rfl))) (Or.inr (hw _ (List.mem_of_getElem? (i := 21) rfl))) (by decide) (by decide) (by decide)))
  have o_heard_8 := o_heard_7.other W8 (Or.inr (slot_ne (t := (.array .long)) (t' := (.array .long)) (Or.inr (hw _ (List.mem_of_getElem? (i := 34) rfl))) (Or.inr (hw _ (List.mem_of_getElem? (i := 21) rfl))) (by decide) (by decide) (by decide)))
  have o_preceded_8 := o_preceded_7.other W8 (Or.inr (slot_ne (t := .boolean) (t' := (.array .long)) (Or.inl (hw _ (List.mem_of_getElem? (i := 41) rfl))) (Or.inr (hw _ (List.mem_of_getElem? (i := 21) rfl))) (by decide) (by decide) (by decide)))
  have o_chosen_8 := o_chosen_7.other W8 (Or.inr (slot_ne (t := .boolean) (t' := (.array .long)) (Or.inl (hw _ (List.mem_of_getElem? (i := 43) rfl))) (Or.inr (hw _ (List.mem_of_getElem? (i := 21) rfl))) (by decide) (by decide) (by decide)))
  have r_E_8 := r_E_7.wr W8
  have r_A_8 := r_A_7.other W8 (Ne.symm ne_a_a3)
  have m_E_8 := C7.wr W8
  have m_A_8 := A7.other W8 (Ne.symm ne_a_a7)
  have K8 := K7.wr W8 (Or.inl (List.mem_of_getElem? (i := 0) rfl))
  refine own_go st8 ?_
  show own_Go p e below _ (T8.setTop (mkF m 50 #[.val (.ref a), .val (.int (0 : Int32)), .val (.int (3 : Int32)), .val (.long r0), .second] []))
  refine own_go (fun _ => XS.aloadN X8.here hx rfl (hb hby d2_50) rfl rfl) ?_
  show own_Go p e below _ (T8.setTop (mkF m 51 #[.val (.ref a), .val (.int (0 : Int32)), .val (.int (3 : Int32)), .val (.long r0), .second] [(.ref a)]))
  obtain ⟨T9, X9, e9, st9⟩ := getF X8 hx hZ hown (host := "") (Or.inl (hw _ (List.mem_of_getElem? (i := 20) rfl))) Via.refl e8 o_marks_8 (g := (mkF m 51 #[.val (.ref a), .val (.int (0 : Int32)), .val (.int (3 : Int32)), .val (.long r0), .second] [(.ref a)])) rfl rfl (hb hby d2_51)
  refine own_go st9 ?_
  show own_Go p e below _ (T9.setTop (mkF m 54 #[.val (.ref a), .val (.int (0 : Int32)), .val (.int (3 : Int32)), .val (.long r0), .second] [(.ref a7)]))
  refine own_go (fun _ => XS.aloadN X9.here hx rfl (hb hby d2_54) rfl rfl) ?_
  show own_Go p e below _ (T9.setTop (mkF m 55 #[.val (.ref a), .val (.int (0 : Int32)), .val (.int (3 : Int32)), .val (.long r0), .second] [(.ref a), (.ref a7)]))
  refine own_go (fun _ => XS.dup X9.here hx rfl (hb hby d2_55) rfl rfl) ?_
  show own_Go p e below _ (T9.setTop (mkF m 56 #[.val (.ref a), .val (.int (0 : Int32)), .val (.int (3 : Int32)), .val (.long r0), .second] [(.ref a), (.ref a), (.ref a7)]))
  obtain ⟨T10, X10, e10, st10⟩ := getF X9 hx hZ hown (host := "") (Or.inl (hw _ (List.mem_of_getElem? (i := 22) rfl))) Via.refl e9 o_marked_8 (g := (mkF m 56 #[.val (.ref a), .val (.int (0 : Int32)), .val (.int (3 : Int32)), .val (.long r0), .second] [(.ref a), (.ref a), (.ref a7)])) rfl rfl (hb hby d2_56)
  refine own_go st10 ?_
  show own_Go p e below _ (T10.setTop (mkF m 59 #[.val (.ref a), .val (.int (0 : Int32)), .val (.int (3 : Int32)), .val (.long r0), .second] [(.int (0 : Int32)), (.ref a), (.ref a7)]))
  refine own_go (fun _ => XT.dupX1 X10.here hx rfl (hb hby d2_59) rfl rfl rfl) ?_
  show own_Go p e below _ (T10.setTop (mkF m 60 #[.val (.ref a), .val (.int (0 : Int32)), .val (.int (3 : Int32)), .val (.long r0), .second] [(.int (0 : Int32)), (.ref a), (.int (0 : Int32)), (.ref a7)]))
  refine own_go (fun _ => XS.iconst X10.here hx rfl (hb hby d2_60)) ?_
  show own_Go p e below _ (T10.setTop (mkF m 61 #[.val (.ref a), .val (.int (0 : Int32)), .val (.int (3 : Int32)), .val (.long r0), .second] [(.int (1 : Int32)), (.int (0 : Int32)), (.ref a), (.int (0 : Int32)), (.ref a7)]))
  refine own_go (fun _ => XS.iadd X10.here hx rfl (hb hby d2_61) rfl) ?_
  show own_Go p e below _ (T10.setTop (mkF m 62 #[.val (.ref a), .val (.int (0 : Int32)), .val (.int (3 : Int32)), .val (.long r0), .second] [(.int ((0 : Int32) + (1 : Int32))), (.ref a), (.int (0 : Int32)), (.ref a7)]))
  obtain ⟨T11, h11, X11, e11, W11, st11⟩ := putF X10 hx hZ hown (host := "") (Or.inl (hw _ (List.mem_of_getElem? (i := 22) rfl))) Via.refl e10 o_marked_8 o_E_8 (Or.inl (hw _ (List.mem_of_getElem? (i := 23) rfl))) (hw _ (List.mem_of_getElem? (i := 8) rfl)) (ty := .int) (by decide) rfl rfl (g := (mkF m 62 #[.val (.ref a), .val (.int (0 : Int32)), .val (.int (3 : Int32)), .val (.long r0), .second] [(.int ((0 : Int32) + (1 : Int32))), (.ref a), (.int (0 : Int32)), (.ref a7)])) rfl rfl (hb hby d2_62)
  have N11 := Fr.snoc X11 N8 ga
  have o_E_11 := o_E_8.wr W11
  have o_self_11 := o_self_8.other W11 (Or.inr (slot_ne (t := .int) (t' := .int) (Or.inr (hw _ (List.mem_of_getElem? (i := 17) rfl))) (Or.inl (hw _ (List.mem_of_getElem? (i := 23) rfl))) (by decide) (by decide) (by decide)))
  have o_runs_11 := o_runs_8.other W11 (Or.inr (slot_ne (t := (.array .long)) (t' := .int) (Or.inr (hw _ (List.mem_of_getElem? (i := 19) rfl))) (Or.inl (hw _ (List.mem_of_getElem? (i := 23) rfl))) (by decide) (by decide) (by decide)))
  have o_marks_11 := o_marks_8.other W11 (Or.inr (slot_ne (t := (.array .long)) (t' := .int) (Or.inr (hw _ (List.mem_of_getElem? (i := 21) rfl))) (Or.inl (hw _ (List.mem_of_getElem? (i := 23) rfl))) (by decide) (by decide) (by decide)))
  have o_marked_11 := o_marked_8.same W11
  have o_heard_11 := o_heard_8.other W11 (Or.inr (slot_ne (t := (.array .long)) (t' := .int) (Or.inr (hw _ (List.mem_of_getElem? (i := 34) rfl))) (Or.inl (hw _ (List.mem_of_getElem? (i := 23) rfl))) (by decide) (by decide) (by decide)))
  have o_preceded_11 := o_preceded_8.other W11 (Or.inr (slot_ne (t := .boolean) (t' := .int) (Or.inl (hw _ (List.mem_of_getElem? (i := 41) rfl))) (Or.inl (hw _ (List.mem_of_getElem? (i := 23) rfl))) (by decide) (by decide) (by decide)))
  have o_chosen_11 := o_chosen_8.other W11 (Or.inr (slot_ne (t := .boolean) (t' := .int) (Or.inl (hw _ (List.mem_of_getElem? (i := 43) rfl))) (Or.inl (hw _ (List.mem_of_getElem? (i := 23) rfl))) (by decide) (by decide) (by decide)))
  have r_E_11 := r_E_8.wr W11
  have r_A_11 := r_A_8.other W11 (Ne.symm ne_a_a3)
  have m_E_11 := m_E_8.wr W11
  have m_A_11 := m_A_8.other W11 (Ne.symm ne_a_a7)
  have K11 := K8.wr W11 (Or.inl (List.mem_of_getElem? (i := 0) rfl))
  refine own_go st11 ?_
  show own_Go p e below _ (T11.setTop (mkF m 65 #[.val (.ref a), .val (.int (0 : Int32)), .val (.int (3 : Int32)), .val (.long r0), .second] [(.int (0 : Int32)), (.ref a7)]))
  refine own_go (fun _ => XS.aloadN X11.here hx rfl (hb hby d2_65) rfl rfl) ?_
  show own_Go p e below _ (T11.setTop (mkF m 66 #[.val (.ref a), .val (.int (0 : Int32)), .val (.int (3 : Int32)), .val (.long r0), .second] [(.ref a), (.int (0 : Int32)), (.ref a7)]))
  obtain ⟨T12, X12, e12, st12⟩ := getF X11 hx hZ hown (host := "") (Or.inl (hw _ (List.mem_of_getElem? (i := 18) rfl))) Via.refl e11 o_runs_11 (g := (mkF m 66 #[.val (.ref a), .val (.int (0 : Int32)), .val (.int (3 : Int32)), .val (.long r0), .second] [(.ref a), (.int (0 : Int32)), (.ref a7)])) rfl rfl (hb hby d2_66)
  refine own_go st12 ?_
  show own_Go p e below _ (T12.setTop (mkF m 69 #[.val (.ref a), .val (.int (0 : Int32)), .val (.int (3 : Int32)), .val (.long r0), .second] [(.ref a3), (.int (0 : Int32)), (.ref a7)]))
  obtain ⟨_, T13, L13, X13, ⟨rfl, eh13, rfl⟩, st13⟩ := own_callS X12 hx hZ hown (argsL := [(.ref a3)]) (rest := [(.int (0 : Int32)), (.ref a7)]) (own_markOf_con l Z a0 hw a3 r0 0 0 h11 r_A_11 []) e12 (hw _ (List.mem_of_getElem? (i := 24) rfl)) (hw _ (List.mem_of_getElem? (i := 25) rfl)) (hw _ (List.mem_of_getElem? (i := 9) rfl)) (hw _ (List.mem_of_getElem? (i := 26) rfl)) (by decide) (by decide +kernel : parseMethodDescriptor "([J)J" = some ⟨[(.array .long)], some .long⟩) rfl (g := (mkF m 69 #[.val (.ref a), .val (.int (0 : Int32)), .val (.int (3 : Int32)), .val (.long r0), .second] [(.ref a3), (.int (0 : Int32)), (.ref a7)])) rfl (by rw [hml]; rfl) rfl 2 (by show 2 * 0 + _ ≤ _; exact Nat.le_of_eq rfl) (hb hby d2_69) (by decide) (by decide) (by decide) (by decide)
  rw [List.append_nil] at X13
  refine own_go st13 ?_
  show own_Go p e below _ (T13.setTop (mkF m 72 #[.val (.ref a), .val (.int (0 : Int32)), .val (.int (3 : Int32)), .val (.long r0), .second] [(.long (own_mark r0 0 0)), (.int (0 : Int32)), (.ref a7)]))
  obtain ⟨T14, h14, X14, e14, W14, A14, st14⟩ := own_stJ X13 hx hZ eh13 m_A_11 (g := (mkF m 72 #[.val (.ref a), .val (.int (0 : Int32)), .val (.int (3 : Int32)), .val (.long r0), .second] [(.long (own_mark r0 0 0)), (.int (0 : Int32)), (.ref a7)])) rfl rfl (hb hby d2_72) 0 (by decide) (by simp)
  have N14 := Fr.snoc X14 N11 (Nat.le_trans gn g_a7)
  have o_E_14 := o_E_11.wr W14
  have o_self_14 := o_self_11.other W14 (Or.inl ne_a_a7)
  have o_runs_14 := o_runs_11.other W14 (Or.inl ne_a_a7)
  have o_marks_14 := o_marks_11.other W14 (Or.inl ne_a_a7)
  have o_marked_14 := o_marked_11.other W14 (Or.inl ne_a_a7)
  have o_heard_14 := o_heard_11.other W14 (Or.inl ne_a_a7)
  have o_preceded_14 := o_preceded_11.other W14 (Or.inl ne_a_a7)
  have o_chosen_14 := o_chosen_11.other W14 (Or.inl ne_a_a7)
  have r_E_14 := r_E_11.wr W14
  have r_A_14 := r_A_11.other W14 ne_a3_a7
  have m_E_14 := m_E_11.wr W14
  have K14 := K11.wr W14 (Or.inr g_a7)
  refine own_go st14 ?_
  show own_Go p e below _ (T14.setTop (mkF m 73 #[.val (.ref a), .val (.int (0 : Int32)), .val (.int (3 : Int32)), .val (.long r0), .second] []))
  refine own_go (fun _ => XS.aloadN X14.here hx rfl (hb hby d2_73) rfl rfl) ?_
  show own_Go p e below _ (T14.setTop (mkF m 74 #[.val (.ref a), .val (.int (0 : Int32)), .val (.int (3 : Int32)), .val (.long r0), .second] [(.ref a)]))
  refine own_go (fun _ => XS.iloadN X14.here hx rfl (hb hby d2_74) rfl) ?_
  show own_Go p e below _ (T14.setTop (mkF m 75 #[.val (.ref a), .val (.int (0 : Int32)), .val (.int (3 : Int32)), .val (.long r0), .second] [(.int (3 : Int32)), (.ref a)]))
  obtain ⟨T15, h15, X15, e15, E15, A15, C15, st15⟩ := own_newAE X14 hx hZ (aty := .long) (hw _ (List.mem_of_getElem? (i := 1) rfl)) e14 (g := (mkF m 75 #[.val (.ref a), .val (.int (0 : Int32)), .val (.int (3 : Int32)), .val (.long r0), .second] [(.int (3 : Int32)), (.ref a)])) rfl (hb hby d2_75) rfl 3 3 (by decide) (by decide) (by decide) (by decide) (by decide) (ad := "[J") (by first | rfl | decide)
  obtain ⟨a15, q15⟩ : ∃ z, z = h14.size := ⟨_, rfl⟩
  rw [← q15] at A15 C15 st15
  have ne_a_a15 : a ≠ a15 := fun z => absurd o_E_14.lt (by rw [z, q15]; exact Nat.lt_irrefl _)
  have ne_a3_a15 : a3 ≠ a15 := fun z => absurd r_E_14.lt (by rw [z, q15]; exact Nat.lt_irrefl _)
  have ne_a7_a15 : a7 ≠ a15 := fun z => absurd m_E_14.lt (by rw [z, q15]; exact Nat.lt_irrefl _)
  have o_E_15 := o_E_14.ext E15
  have o_self_15 := o_self_14.ext E15
  have o_runs_15 := o_runs_14.ext E15
  have o_marks_15 := o_marks_14.ext E15
  have o_marked_15 := o_marked_14.ext E15
  have o_heard_15 := o_heard_14.ext E15
  have o_preceded_15 := o_preceded_14.ext E15
  have o_chosen_15 := o_chosen_14.ext E15
  have r_E_15 := r_E_14.ext E15
  have r_A_15 := r_A_14.ext E15
  have m_E_15 := m_E_14.ext E15
  have m_A_15 := A14.ext E15
  have K15 := K14.ext E15
  refine own_go st15 ?_
  show own_Go p e below _ (T15.setTop (mkF m 77 #[.val (.ref a), .val (.int (0 : Int32)), .val (.int (3 : Int32)), .val (.long r0), .second] [(.ref a15), (.ref a)]))
  have g_a15 : h0.size ≤ a15 := by rw [q15]; exact K14.1
  obtain ⟨T16, h16, X16, e16, W16, st16⟩ := putF X15 hx hZ hown (host := "") (Or.inl (hw _ (List.mem_of_getElem? (i := 33) rfl))) Via.refl e15 o_heard_15 o_E_15 (Or.inr ⟨(hw _ (List.mem_of_getElem? (i := 34) rfl)), rfl, hnm⟩) (hw _ (List.mem_of_getElem? (i := 8) rfl)) (ty := (.array .long)) (by decide) rfl rfl (g := (mkF m 77 #[.val (.ref a), .val (.int (0 : Int32)), .val (.int (3 : Int32)), .val (.long r0), .second] [(.ref a15), (.ref a)])) rfl rfl (hb hby d2_77)
  have N16 := Fr.snoc X16 N14 ga
  have o_E_16 := o_E_15.wr W16
  have o_self_16 := o_self_15.other W16 (Or.inr (slot_ne (t := .int) (t' := (.array .long)) (Or.inr (hw _ (List.mem_of_getElem? (i := 17) rfl))) (Or.inr (hw _ (List.mem_of_getElem? (i := 34) rfl))) (by decide) (by decide) (by decide)))
  have o_runs_16 := o_runs_15.other W16 (Or.inr (slot_ne (t := (.array .long)) (t' := (.array .long)) (Or.inr (hw _ (List.mem_of_getElem? (i := 19) rfl))) (Or.inr (hw _ (List.mem_of_getElem? (i := 34) rfl))) (by decide) (by decide) (by decide)))
  have o_marks_16 := o_marks_15.other W16 (Or.inr (slot_ne (t := (.array .long)) (t' := (.array .long)) (Or.inr (hw _ (List.mem_of_getElem? (i := 21) rfl))) (Or.inr (hw _ (List.mem_of_getElem? (i := 34) rfl))) (by decide) (by decide) (by decide)))
  have o_marked_16 := o_marked_15.other W16 (Or.inr (slot_ne (t := .int) (t' := (.array .long)) (Or.inl (hw _ (List.mem_of_getElem? (i := 23) rfl))) (Or.inr (hw _ (List.mem_of_getElem? (i := 34) rfl))) (by decide) (by decide) (by decide)))
  have o_heard_16 := o_heard_15.same W16
  have o_preceded_16 := o_preceded_15.other W16 (Or.inr (slot_ne (t := .boolean) (t' := (.array .long)) (Or.inl (hw _ (List.mem_of_getElem? (i := 41) rfl))) (Or.inr (hw _ (List.mem_of_getElem? (i := 34) rfl))) (by decide) (by decide) (by decide)))
  have o_chosen_16 := o_chosen_15.other W16 (Or.inr (slot_ne (t := .boolean) (t' := (.array .long)) (Or.inl (hw _ (List.mem_of_getElem? (i := 43) rfl))) (Or.inr (hw _ (List.mem_of_getElem? (i := 34) rfl))) (by decide) (by decide) (by decide)))
  have r_E_16 := r_E_15.wr W16
  have r_A_16 := r_A_15.other W16 (Ne.symm ne_a_a3)
  have m_E_16 := m_E_15.wr W16
  have m_A_16 := m_A_15.other W16 (Ne.symm ne_a_a7)
  have h_E_16 := C15.wr W16
  have h_A_16 := A15.other W16 (Ne.symm ne_a_a15)
  have K16 := K15.wr W16 (Or.inl (List.mem_of_getElem? (i := 0) rfl))
  refine own_go st16 ?_
  show own_Go p e below _ (T16.setTop (mkF m 80 #[.val (.ref a), .val (.int (0 : Int32)), .val (.int (3 : Int32)), .val (.long r0), .second] []))
  exact own_vret X16 hx hlk hret (hb hby d2_80) (by decide) (by decide) (by rw [e16]; exact ⟨rfl, N16, K16, a3, a7, a15, ⟨⟨o_E_16, r_E_16, r_A_16, m_A_16, h_A_16⟩, ⟨o_self_16, o_runs_16, o_marks_16, o_marked_16, o_heard_16, o_preceded_16, o_chosen_16⟩, ⟨ne_a_a3, ne_a_a7, ne_a_a15, ne_a3_a7, ne_a3_a15, ne_a7_a15⟩⟩, g_a3, g_a7, g_a15⟩)
theorem d7_0 : decode prog_25_method_14_code 0 = .ok (.iconst 0, 1) := by decide +kernel
theorem d7_1 : decode prog_25_method_14_code 1 = .ok (.istore_n 2, 1) := by decide +kernel
theorem d7_2 : decode prog_25_method_14_code 2 = .ok (.iload_n 2, 1) := by decide +kernel
theorem d7_3 : decode prog_25_method_14_code 3 = .ok (.aload_n 0, 1) := by decide +kernel
theorem d7_4 : decode prog_25_method_14_code 4 = .ok (.getfield 22, 3) := by decide +kernel
theorem d7_7 : decode prog_25_method_14_code 7 = .ok (.arraylength, 1) := by decide +kernel
theorem d7_8 : decode prog_25_method_14_code 8 = .ok (.if_icmp .ge 35, 3) := by decide +kernel
theorem d7_11 : decode prog_25_method_14_code 11 = .ok (.aload_n 0, 1) := by decide +kernel
theorem d7_12 : decode prog_25_method_14_code 12 = .ok (.getfield 22, 3) := by decide +kernel
theorem d7_15 : decode prog_25_method_14_code 15 = .ok (.iload_n 2, 1) := by decide +kernel
theorem d7_16 : decode prog_25_method_14_code 16 = .ok (.laload, 1) := by decide +kernel
theorem d7_17 : decode prog_25_method_14_code 17 = .ok (.lconst 0, 1) := by decide +kernel
theorem d7_18 : decode prog_25_method_14_code 18 = .ok (.lcmp, 1) := by decide +kernel
theorem d7_19 : decode prog_25_method_14_code 19 = .ok (.ifCond .eq 18, 3) := by decide +kernel
theorem d7_22 : decode prog_25_method_14_code 22 = .ok (.aload_n 1, 1) := by decide +kernel
theorem d7_23 : decode prog_25_method_14_code 23 = .ok (.iload_n 2, 1) := by decide +kernel
theorem d7_24 : decode prog_25_method_14_code 24 = .ok (.laload, 1) := by decide +kernel
theorem d7_25 : decode prog_25_method_14_code 25 = .ok (.aload_n 0, 1) := by decide +kernel
theorem d7_26 : decode prog_25_method_14_code 26 = .ok (.getfield 22, 3) := by decide +kernel
theorem d7_29 : decode prog_25_method_14_code 29 = .ok (.iload_n 2, 1) := by decide +kernel
theorem d7_30 : decode prog_25_method_14_code 30 = .ok (.laload, 1) := by decide +kernel
theorem d7_31 : decode prog_25_method_14_code 31 = .ok (.lcmp, 1) := by decide +kernel
theorem d7_32 : decode prog_25_method_14_code 32 = .ok (.ifCond .le 5, 3) := by decide +kernel
theorem d7_37 : decode prog_25_method_14_code 37 = .ok (.iinc 2 1, 3) := by decide +kernel
theorem d7_40 : decode prog_25_method_14_code 40 = .ok (.goto (-38), 3) := by decide +kernel
theorem d7_43 : decode prog_25_method_14_code 43 = .ok (.iconst 1, 1) := by decide +kernel
theorem d7_44 : decode prog_25_method_14_code 44 = .ok (.ireturn, 1) := by decide +kernel
set_option maxRecDepth 65536 in
set_option maxHeartbeats 40000000 in
theorem own_noneLater_con (l : Launch) (Z : State) (a0 : Array Value) (hw : ∀ d ∈ tables_1, d.before a0 Z = true) (a rr mm hh tt : Addr) (r0 y0 y1 : Int64) (ms hs : List Value) (k pr ch : Int32) (h0 : Heap) (I0 : own_Runs Z h0 a rr mm hh [.long r0, .long 0, .long 0] ms hs k pr ch) (t_A0 : own_AV Z h0 tt .long [.long 0, .long y0, .long y1]) (hr : 0 < r0) (ws : List Jvm.Cond) :
    own_Con l Z (⟨"tidemark/io/Runs", "noneLater", "([J)Z"⟩ : MethodName) prog_25_method_14_code 3 (some .boolean) ({ frames := 0, cells := 0, slots := 0, locals := 0 } : Room) #[(.ref a), (.ref tt)] h0 (own_PQ h0 (.int 1)) ws := by
  refine own_con (F := fun m => (mkF m 0 #[.val (.ref a), .val (.ref tt), .unset] [])) (own_pn (by first | (simp [plainName, overriddenIn]; done) | decide +kernel)) (fun m => by first | (simp [entryFrame, mkF, argsToLocals, Value.category]; done) | rfl) ?_
  intro p e s m below meth c T X hx hby hml hZ hown hnm hret hlk eT
  show own_Go p e below (own_Out s (own_PQ h0 (.int 1)) ({ frames := 0, cells := 0, slots := 0, locals := 0 } : Room).cells ({ frames := 0, cells := 0, slots := 0, locals := 0 } : Room).slots) (T.setTop (mkF m 0 #[.val (.ref a), .val (.ref tt), .unset] []))
  obtain ⟨⟨o_E0, r_E0, r_A0, m_A0, h_A0⟩, ⟨o_self0, o_runs0, o_marks0, o_marked0, o_heard0, o_preceded0, o_chosen0⟩, ⟨ne_a_rr, ne_a_mm, ne_a_hh, ne_rr_mm, ne_rr_hh, ne_mm_hh⟩⟩ := I0
  have hr0 : ¬ r0 = 0 := fun q => by rw [q] at hr; exact absurd hr (by decide)
  have hr1 : ¬ r0 < 0 := fun q => by rw [Int64.lt_iff_toInt_lt] at hr q; omega
  refine own_go (fun _ => XS.iconst X.here hx rfl (hb hby d7_0)) ?_
  show own_Go p e below _ (T.setTop (mkF m 1 #[.val (.ref a), .val (.ref tt), .unset] [(.int (0 : Int32))]))
  refine own_go (fun _ => XS.istoreN X.here hx rfl (hb hby d7_1) rfl (l' := #[.val (.ref a), .val (.ref tt), .val (.int (0 : Int32))]) rfl) ?_
  show own_Go p e below _ (T.setTop (mkF m 2 #[.val (.ref a), .val (.ref tt), .val (.int (0 : Int32))] []))
  refine own_go (fun _ => XS.iloadN X.here hx rfl (hb hby d7_2) rfl) ?_
  show own_Go p e below _ (T.setTop (mkF m 3 #[.val (.ref a), .val (.ref tt), .val (.int (0 : Int32))] [(.int (0 : Int32))]))
  refine own_go (fun _ => XS.aloadN X.here hx rfl (hb hby d7_3) rfl rfl) ?_
  show own_Go p e below _ (T.setTop (mkF m 4 #[.val (.ref a), .val (.ref tt), .val (.int (0 : Int32))] [(.ref a), (.int (0 : Int32))]))
  obtain ⟨T1, X1, e1, st1⟩ := getF X hx hZ hown (host := "") (Or.inl (hw _ (List.mem_of_getElem? (i := 18) rfl))) Via.refl eT o_runs0 (g := (mkF m 4 #[.val (.ref a), .val (.ref tt), .val (.int (0 : Int32))] [(.ref a), (.int (0 : Int32))])) rfl rfl (hb hby d7_4)
  refine own_go st1 ?_
  show own_Go p e below _ (T1.setTop (mkF m 7 #[.val (.ref a), .val (.ref tt), .val (.int (0 : Int32))] [(.ref rr), (.int (0 : Int32))]))
  refine own_go (own_len X1 hx hZ e1 r_A0 (g := (mkF m 7 #[.val (.ref a), .val (.ref tt), .val (.int (0 : Int32))] [(.ref rr), (.int (0 : Int32))])) rfl rfl (hb hby d7_7) (3 : Int32) rfl) ?_
  show own_Go p e below _ (T1.setTop (mkF m 8 #[.val (.ref a), .val (.ref tt), .val (.int (0 : Int32))] [(.int (3 : Int32)), (.int (0 : Int32))]))
  refine own_go (fun _ => XS.icmpNo X1.here hx rfl (hb hby d7_8) rfl (XT.ii_ge_f (by decide))) ?_
  show own_Go p e below _ (T1.setTop (mkF m 11 #[.val (.ref a), .val (.ref tt), .val (.int (0 : Int32))] []))
  refine own_go (fun _ => XS.aloadN X1.here hx rfl (hb hby d7_11) rfl rfl) ?_
  show own_Go p e below _ (T1.setTop (mkF m 12 #[.val (.ref a), .val (.ref tt), .val (.int (0 : Int32))] [(.ref a)]))
  obtain ⟨T2, X2, e2, st2⟩ := getF X1 hx hZ hown (host := "") (Or.inl (hw _ (List.mem_of_getElem? (i := 18) rfl))) Via.refl e1 o_runs0 (g := (mkF m 12 #[.val (.ref a), .val (.ref tt), .val (.int (0 : Int32))] [(.ref a)])) rfl rfl (hb hby d7_12)
  refine own_go st2 ?_
  show own_Go p e below _ (T2.setTop (mkF m 15 #[.val (.ref a), .val (.ref tt), .val (.int (0 : Int32))] [(.ref rr)]))
  refine own_go (fun _ => XS.iloadN X2.here hx rfl (hb hby d7_15) rfl) ?_
  show own_Go p e below _ (T2.setTop (mkF m 16 #[.val (.ref a), .val (.ref tt), .val (.int (0 : Int32))] [(.int (0 : Int32)), (.ref rr)]))
  refine own_go (own_ldJ X2 hx hZ e2 r_A0 (g := (mkF m 16 #[.val (.ref a), .val (.ref tt), .val (.int (0 : Int32))] [(.int (0 : Int32)), (.ref rr)])) rfl rfl (hb hby d7_16) 0 (by decide) (x := (.long r0)) rfl) ?_
  show own_Go p e below _ (T2.setTop (mkF m 17 #[.val (.ref a), .val (.ref tt), .val (.int (0 : Int32))] [(.long r0)]))
  refine own_go (fun _ => XT.lconst X2.here hx rfl (hb hby d7_17)) ?_
  show own_Go p e below _ (T2.setTop (mkF m 18 #[.val (.ref a), .val (.ref tt), .val (.int (0 : Int32))] [(.long (0 : Int64)), (.long r0)]))
  refine own_go (fun _ => XT.lcmp X2.here hx rfl (hb hby d7_18) rfl) ?_
  show own_Go p e below _ (T2.setTop (mkF m 19 #[.val (.ref a), .val (.ref tt), .val (.int (0 : Int32))] [(.int (XT.cmpL r0 (0 : Int64)))]))
  refine own_go (fun _ => XS.ifNo X2.here hx rfl (hb hby d7_19) rfl (XT.ll_eq_f hr0)) ?_
  show own_Go p e below _ (T2.setTop (mkF m 22 #[.val (.ref a), .val (.ref tt), .val (.int (0 : Int32))] []))
  refine own_go (fun _ => XS.aloadN X2.here hx rfl (hb hby d7_22) rfl rfl) ?_
  show own_Go p e below _ (T2.setTop (mkF m 23 #[.val (.ref a), .val (.ref tt), .val (.int (0 : Int32))] [(.ref tt)]))
  refine own_go (fun _ => XS.iloadN X2.here hx rfl (hb hby d7_23) rfl) ?_
  show own_Go p e below _ (T2.setTop (mkF m 24 #[.val (.ref a), .val (.ref tt), .val (.int (0 : Int32))] [(.int (0 : Int32)), (.ref tt)]))
  refine own_go (own_ldJ X2 hx hZ e2 t_A0 (g := (mkF m 24 #[.val (.ref a), .val (.ref tt), .val (.int (0 : Int32))] [(.int (0 : Int32)), (.ref tt)])) rfl rfl (hb hby d7_24) 0 (by decide) (x := (.long (0 : Int64))) rfl) ?_
  show own_Go p e below _ (T2.setTop (mkF m 25 #[.val (.ref a), .val (.ref tt), .val (.int (0 : Int32))] [(.long (0 : Int64))]))
  refine own_go (fun _ => XS.aloadN X2.here hx rfl (hb hby d7_25) rfl rfl) ?_
  show own_Go p e below _ (T2.setTop (mkF m 26 #[.val (.ref a), .val (.ref tt), .val (.int (0 : Int32))] [(.ref a), (.long (0 : Int64))]))
  obtain ⟨T3, X3, e3, st3⟩ := getF X2 hx hZ hown (host := "") (Or.inl (hw _ (List.mem_of_getElem? (i := 18) rfl))) Via.refl e2 o_runs0 (g := (mkF m 26 #[.val (.ref a), .val (.ref tt), .val (.int (0 : Int32))] [(.ref a), (.long (0 : Int64))])) rfl rfl (hb hby d7_26)
  refine own_go st3 ?_
  show own_Go p e below _ (T3.setTop (mkF m 29 #[.val (.ref a), .val (.ref tt), .val (.int (0 : Int32))] [(.ref rr), (.long (0 : Int64))]))
  refine own_go (fun _ => XS.iloadN X3.here hx rfl (hb hby d7_29) rfl) ?_
  show own_Go p e below _ (T3.setTop (mkF m 30 #[.val (.ref a), .val (.ref tt), .val (.int (0 : Int32))] [(.int (0 : Int32)), (.ref rr), (.long (0 : Int64))]))
  refine own_go (own_ldJ X3 hx hZ e3 r_A0 (g := (mkF m 30 #[.val (.ref a), .val (.ref tt), .val (.int (0 : Int32))] [(.int (0 : Int32)), (.ref rr), (.long (0 : Int64))])) rfl rfl (hb hby d7_30) 0 (by decide) (x := (.long r0)) rfl) ?_
  show own_Go p e below _ (T3.setTop (mkF m 31 #[.val (.ref a), .val (.ref tt), .val (.int (0 : Int32))] [(.long r0), (.long (0 : Int64))]))
  refine own_go (fun _ => XT.lcmp X3.here hx rfl (hb hby d7_31) rfl) ?_
  show own_Go p e below _ (T3.setTop (mkF m 32 #[.val (.ref a), .val (.ref tt), .val (.int (0 : Int32))] [(.int (XT.cmpL (0 : Int64) r0))]))
  refine own_go (fun _ => XS.ifYes X3.here hx rfl (pc0 := 32) (pc' := 37) rfl (hb hby d7_32) rfl (XT.ll_le_t hr1) (by decide) (by decide)) ?_
  show own_Go p e below _ (T3.setTop (mkF m 37 #[.val (.ref a), .val (.ref tt), .val (.int (0 : Int32))] []))
  refine own_go (fun _ => XT.iincV X3.here hx rfl (1 : Int32) (hb hby d7_37) rfl rfl (l' := #[.val (.ref a), .val (.ref tt), .val (.int ((0 : Int32) + (1 : Int32)))]) rfl) ?_
  show own_Go p e below _ (T3.setTop (mkF m 40 #[.val (.ref a), .val (.ref tt), .val (.int ((0 : Int32) + (1 : Int32)))] []))
  refine own_go (fun _ => XS.goto X3.here hx rfl (pc0 := 40) (pc' := 2) rfl (hb hby d7_40) (by decide) (by decide)) ?_
  show own_Go p e below _ (T3.setTop (mkF m 2 #[.val (.ref a), .val (.ref tt), .val (.int ((0 : Int32) + (1 : Int32)))] []))
  refine own_go (fun _ => XS.iloadN X3.here hx rfl (hb hby d7_2) rfl) ?_
  show own_Go p e below _ (T3.setTop (mkF m 3 #[.val (.ref a), .val (.ref tt), .val (.int ((0 : Int32) + (1 : Int32)))] [(.int ((0 : Int32) + (1 : Int32)))]))
  refine own_go (fun _ => XS.aloadN X3.here hx rfl (hb hby d7_3) rfl rfl) ?_
  show own_Go p e below _ (T3.setTop (mkF m 4 #[.val (.ref a), .val (.ref tt), .val (.int ((0 : Int32) + (1 : Int32)))] [(.ref a), (.int ((0 : Int32) + (1 : Int32)))]))
  obtain ⟨T4, X4, e4, st4⟩ := getF X3 hx hZ hown (host := "") (Or.inl (hw _ (List.mem_of_getElem? (i := 18) rfl))) Via.refl e3 o_runs0 (g := (mkF m 4 #[.val (.ref a), .val (.ref tt), .val (.int ((0 : Int32) + (1 : Int32)))] [(.ref a), (.int ((0 : Int32) + (1 : Int32)))])) rfl rfl (hb hby d7_4)
  refine own_go st4 ?_
  show own_Go p e below _ (T4.setTop (mkF m 7 #[.val (.ref a), .val (.ref tt), .val (.int ((0 : Int32) + (1 : Int32)))] [(.ref rr), (.int ((0 : Int32) + (1 : Int32)))]))
  refine own_go (own_len X4 hx hZ e4 r_A0 (g := (mkF m 7 #[.val (.ref a), .val (.ref tt), .val (.int ((0 : Int32) + (1 : Int32)))] [(.ref rr), (.int ((0 : Int32) + (1 : Int32)))])) rfl rfl (hb hby d7_7) (3 : Int32) rfl) ?_
  show own_Go p e below _ (T4.setTop (mkF m 8 #[.val (.ref a), .val (.ref tt), .val (.int ((0 : Int32) + (1 : Int32)))] [(.int (3 : Int32)), (.int ((0 : Int32) + (1 : Int32)))]))
  refine own_go (fun _ => XS.icmpNo X4.here hx rfl (hb hby d7_8) rfl (XT.ii_ge_f (by decide))) ?_
  show own_Go p e below _ (T4.setTop (mkF m 11 #[.val (.ref a), .val (.ref tt), .val (.int ((0 : Int32) + (1 : Int32)))] []))
  refine own_go (fun _ => XS.aloadN X4.here hx rfl (hb hby d7_11) rfl rfl) ?_
  show own_Go p e below _ (T4.setTop (mkF m 12 #[.val (.ref a), .val (.ref tt), .val (.int ((0 : Int32) + (1 : Int32)))] [(.ref a)]))
  obtain ⟨T5, X5, e5, st5⟩ := getF X4 hx hZ hown (host := "") (Or.inl (hw _ (List.mem_of_getElem? (i := 18) rfl))) Via.refl e4 o_runs0 (g := (mkF m 12 #[.val (.ref a), .val (.ref tt), .val (.int ((0 : Int32) + (1 : Int32)))] [(.ref a)])) rfl rfl (hb hby d7_12)
  refine own_go st5 ?_
  show own_Go p e below _ (T5.setTop (mkF m 15 #[.val (.ref a), .val (.ref tt), .val (.int ((0 : Int32) + (1 : Int32)))] [(.ref rr)]))
  refine own_go (fun _ => XS.iloadN X5.here hx rfl (hb hby d7_15) rfl) ?_
  show own_Go p e below _ (T5.setTop (mkF m 16 #[.val (.ref a), .val (.ref tt), .val (.int ((0 : Int32) + (1 : Int32)))] [(.int ((0 : Int32) + (1 : Int32))), (.ref rr)]))
  refine own_go (own_ldJ X5 hx hZ e5 r_A0 (g := (mkF m 16 #[.val (.ref a), .val (.ref tt), .val (.int ((0 : Int32) + (1 : Int32)))] [(.int ((0 : Int32) + (1 : Int32))), (.ref rr)])) rfl rfl (hb hby d7_16) 1 (by decide) (x := (.long (0 : Int64))) rfl) ?_
  show own_Go p e below _ (T5.setTop (mkF m 17 #[.val (.ref a), .val (.ref tt), .val (.int ((0 : Int32) + (1 : Int32)))] [(.long (0 : Int64))]))
  refine own_go (fun _ => XT.lconst X5.here hx rfl (hb hby d7_17)) ?_
  show own_Go p e below _ (T5.setTop (mkF m 18 #[.val (.ref a), .val (.ref tt), .val (.int ((0 : Int32) + (1 : Int32)))] [(.long (0 : Int64)), (.long (0 : Int64))]))
  refine own_go (fun _ => XT.lcmp X5.here hx rfl (hb hby d7_18) rfl) ?_
  show own_Go p e below _ (T5.setTop (mkF m 19 #[.val (.ref a), .val (.ref tt), .val (.int ((0 : Int32) + (1 : Int32)))] [(.int (XT.cmpL (0 : Int64) (0 : Int64)))]))
  refine own_go (fun _ => XS.ifYes X5.here hx rfl (pc0 := 19) (pc' := 37) rfl (hb hby d7_19) rfl (XT.ll_eq_t (by decide)) (by decide) (by decide)) ?_
  show own_Go p e below _ (T5.setTop (mkF m 37 #[.val (.ref a), .val (.ref tt), .val (.int ((0 : Int32) + (1 : Int32)))] []))
  refine own_go (fun _ => XT.iincV X5.here hx rfl (1 : Int32) (hb hby d7_37) rfl rfl (l' := #[.val (.ref a), .val (.ref tt), .val (.int (((0 : Int32) + (1 : Int32)) + (1 : Int32)))]) rfl) ?_
  show own_Go p e below _ (T5.setTop (mkF m 40 #[.val (.ref a), .val (.ref tt), .val (.int (((0 : Int32) + (1 : Int32)) + (1 : Int32)))] []))
  refine own_go (fun _ => XS.goto X5.here hx rfl (pc0 := 40) (pc' := 2) rfl (hb hby d7_40) (by decide) (by decide)) ?_
  show own_Go p e below _ (T5.setTop (mkF m 2 #[.val (.ref a), .val (.ref tt), .val (.int (((0 : Int32) + (1 : Int32)) + (1 : Int32)))] []))
  refine own_go (fun _ => XS.iloadN X5.here hx rfl (hb hby d7_2) rfl) ?_
  show own_Go p e below _ (T5.setTop (mkF m 3 #[.val (.ref a), .val (.ref tt), .val (.int (((0 : Int32) + (1 : Int32)) + (1 : Int32)))] [(.int (((0 : Int32) + (1 : Int32)) + (1 : Int32)))]))
  refine own_go (fun _ => XS.aloadN X5.here hx rfl (hb hby d7_3) rfl rfl) ?_
  show own_Go p e below _ (T5.setTop (mkF m 4 #[.val (.ref a), .val (.ref tt), .val (.int (((0 : Int32) + (1 : Int32)) + (1 : Int32)))] [(.ref a), (.int (((0 : Int32) + (1 : Int32)) + (1 : Int32)))]))
  obtain ⟨T6, X6, e6, st6⟩ := getF X5 hx hZ hown (host := "") (Or.inl (hw _ (List.mem_of_getElem? (i := 18) rfl))) Via.refl e5 o_runs0 (g := (mkF m 4 #[.val (.ref a), .val (.ref tt), .val (.int (((0 : Int32) + (1 : Int32)) + (1 : Int32)))] [(.ref a), (.int (((0 : Int32) + (1 : Int32)) + (1 : Int32)))])) rfl rfl (hb hby d7_4)
  refine own_go st6 ?_
  show own_Go p e below _ (T6.setTop (mkF m 7 #[.val (.ref a), .val (.ref tt), .val (.int (((0 : Int32) + (1 : Int32)) + (1 : Int32)))] [(.ref rr), (.int (((0 : Int32) + (1 : Int32)) + (1 : Int32)))]))
  refine own_go (own_len X6 hx hZ e6 r_A0 (g := (mkF m 7 #[.val (.ref a), .val (.ref tt), .val (.int (((0 : Int32) + (1 : Int32)) + (1 : Int32)))] [(.ref rr), (.int (((0 : Int32) + (1 : Int32)) + (1 : Int32)))])) rfl rfl (hb hby d7_7) (3 : Int32) rfl) ?_
  show own_Go p e below _ (T6.setTop (mkF m 8 #[.val (.ref a), .val (.ref tt), .val (.int (((0 : Int32) + (1 : Int32)) + (1 : Int32)))] [(.int (3 : Int32)), (.int (((0 : Int32) + (1 : Int32)) + (1 : Int32)))]))
  refine own_go (fun _ => XS.icmpNo X6.here hx rfl (hb hby d7_8) rfl (XT.ii_ge_f (by decide))) ?_
  show own_Go p e below _ (T6.setTop (mkF m 11 #[.val (.ref a), .val (.ref tt), .val (.int (((0 : Int32) + (1 : Int32)) + (1 : Int32)))] []))
  refine own_go (fun _ => XS.aloadN X6.here hx rfl (hb hby d7_11) rfl rfl) ?_
  show own_Go p e below _ (T6.setTop (mkF m 12 #[.val (.ref a), .val (.ref tt), .val (.int (((0 : Int32) + (1 : Int32)) + (1 : Int32)))] [(.ref a)]))
  obtain ⟨T7, X7, e7, st7⟩ := getF X6 hx hZ hown (host := "") (Or.inl (hw _ (List.mem_of_getElem? (i := 18) rfl))) Via.refl e6 o_runs0 (g := (mkF m 12 #[.val (.ref a), .val (.ref tt), .val (.int (((0 : Int32) + (1 : Int32)) + (1 : Int32)))] [(.ref a)])) rfl rfl (hb hby d7_12)
  refine own_go st7 ?_
  show own_Go p e below _ (T7.setTop (mkF m 15 #[.val (.ref a), .val (.ref tt), .val (.int (((0 : Int32) + (1 : Int32)) + (1 : Int32)))] [(.ref rr)]))
  refine own_go (fun _ => XS.iloadN X7.here hx rfl (hb hby d7_15) rfl) ?_
  show own_Go p e below _ (T7.setTop (mkF m 16 #[.val (.ref a), .val (.ref tt), .val (.int (((0 : Int32) + (1 : Int32)) + (1 : Int32)))] [(.int (((0 : Int32) + (1 : Int32)) + (1 : Int32))), (.ref rr)]))
  refine own_go (own_ldJ X7 hx hZ e7 r_A0 (g := (mkF m 16 #[.val (.ref a), .val (.ref tt), .val (.int (((0 : Int32) + (1 : Int32)) + (1 : Int32)))] [(.int (((0 : Int32) + (1 : Int32)) + (1 : Int32))), (.ref rr)])) rfl rfl (hb hby d7_16) 2 (by decide) (x := (.long (0 : Int64))) rfl) ?_
  show own_Go p e below _ (T7.setTop (mkF m 17 #[.val (.ref a), .val (.ref tt), .val (.int (((0 : Int32) + (1 : Int32)) + (1 : Int32)))] [(.long (0 : Int64))]))
  refine own_go (fun _ => XT.lconst X7.here hx rfl (hb hby d7_17)) ?_
  show own_Go p e below _ (T7.setTop (mkF m 18 #[.val (.ref a), .val (.ref tt), .val (.int (((0 : Int32) + (1 : Int32)) + (1 : Int32)))] [(.long (0 : Int64)), (.long (0 : Int64))]))
  refine own_go (fun _ => XT.lcmp X7.here hx rfl (hb hby d7_18) rfl) ?_
  show own_Go p e below _ (T7.setTop (mkF m 19 #[.val (.ref a), .val (.ref tt), .val (.int (((0 : Int32) + (1 : Int32)) + (1 : Int32)))] [(.int (XT.cmpL (0 : Int64) (0 : Int64)))]))
  refine own_go (fun _ => XS.ifYes X7.here hx rfl (pc0 := 19) (pc' := 37) rfl (hb hby d7_19) rfl (XT.ll_eq_t (by decide)) (by decide) (by decide)) ?_
  show own_Go p e below _ (T7.setTop (mkF m 37 #[.val (.ref a), .val (.ref tt), .val (.int (((0 : Int32) + (1 : Int32)) + (1 : Int32)))] []))
  refine own_go (fun _ => XT.iincV X7.here hx rfl (1 : Int32) (hb hby d7_37) rfl rfl (l' := #[.val (.ref a), .val (.ref tt), .val (.int ((((0 : Int32) + (1 : Int32)) + (1 : Int32)) + (1 : Int32)))]) rfl) ?_
  show own_Go p e below _ (T7.setTop (mkF m 40 #[.val (.ref a), .val (.ref tt), .val (.int ((((0 : Int32) + (1 : Int32)) + (1 : Int32)) + (1 : Int32)))] []))
  refine own_go (fun _ => XS.goto X7.here hx rfl (pc0 := 40) (pc' := 2) rfl (hb hby d7_40) (by decide) (by decide)) ?_
  show own_Go p e below _ (T7.setTop (mkF m 2 #[.val (.ref a), .val (.ref tt), .val (.int ((((0 : Int32) + (1 : Int32)) + (1 : Int32)) + (1 : Int32)))] []))
  refine own_go (fun _ => XS.iloadN X7.here hx rfl (hb hby d7_2) rfl) ?_
  show own_Go p e below _ (T7.setTop (mkF m 3 #[.val (.ref a), .val (.ref tt), .val (.int ((((0 : Int32) + (1 : Int32)) + (1 : Int32)) + (1 : Int32)))] [(.int ((((0 : Int32) + (1 : Int32)) + (1 : Int32)) + (1 : Int32)))]))
  refine own_go (fun _ => XS.aloadN X7.here hx rfl (hb hby d7_3) rfl rfl) ?_
  show own_Go p e below _ (T7.setTop (mkF m 4 #[.val (.ref a), .val (.ref tt), .val (.int ((((0 : Int32) + (1 : Int32)) + (1 : Int32)) + (1 : Int32)))] [(.ref a), (.int ((((0 : Int32) + (1 : Int32)) + (1 : Int32)) + (1 : Int32)))]))
  obtain ⟨T8, X8, e8, st8⟩ := getF X7 hx hZ hown (host := "") (Or.inl (hw _ (List.mem_of_getElem? (i := 18) rfl))) Via.refl e7 o_runs0 (g := (mkF m 4 #[.val (.ref a), .val (.ref tt), .val (.int ((((0 : Int32) + (1 : Int32)) + (1 : Int32)) + (1 : Int32)))] [(.ref a), (.int ((((0 : Int32) + (1 : Int32)) + (1 : Int32)) + (1 : Int32)))])) rfl rfl (hb hby d7_4)
  refine own_go st8 ?_
  show own_Go p e below _ (T8.setTop (mkF m 7 #[.val (.ref a), .val (.ref tt), .val (.int ((((0 : Int32) + (1 : Int32)) + (1 : Int32)) + (1 : Int32)))] [(.ref rr), (.int ((((0 : Int32) + (1 : Int32)) + (1 : Int32)) + (1 : Int32)))]))
  refine own_go (own_len X8 hx hZ e8 r_A0 (g := (mkF m 7 #[.val (.ref a), .val (.ref tt), .val (.int ((((0 : Int32) + (1 : Int32)) + (1 : Int32)) + (1 : Int32)))] [(.ref rr), (.int ((((0 : Int32) + (1 : Int32)) + (1 : Int32)) + (1 : Int32)))])) rfl rfl (hb hby d7_7) (3 : Int32) rfl) ?_
  show own_Go p e below _ (T8.setTop (mkF m 8 #[.val (.ref a), .val (.ref tt), .val (.int ((((0 : Int32) + (1 : Int32)) + (1 : Int32)) + (1 : Int32)))] [(.int (3 : Int32)), (.int ((((0 : Int32) + (1 : Int32)) + (1 : Int32)) + (1 : Int32)))]))
  refine own_go (fun _ => XS.icmpYes X8.here hx rfl (pc0 := 8) (pc' := 43) rfl (hb hby d7_8) rfl (XT.ii_ge_t (by decide)) (by decide) (by decide)) ?_
  show own_Go p e below _ (T8.setTop (mkF m 43 #[.val (.ref a), .val (.ref tt), .val (.int ((((0 : Int32) + (1 : Int32)) + (1 : Int32)) + (1 : Int32)))] []))
  refine own_go (fun _ => XS.iconst X8.here hx rfl (hb hby d7_43)) ?_
  show own_Go p e below _ (T8.setTop (mkF m 44 #[.val (.ref a), .val (.ref tt), .val (.int ((((0 : Int32) + (1 : Int32)) + (1 : Int32)) + (1 : Int32)))] [(.int (1 : Int32))]))
  exact own_iret X8 hx hlk hret (Or.inr (Or.inl rfl)) rfl (hb hby d7_44) (Nat.zero_le _) (Nat.zero_le _) ⟨rfl, e8, rfl⟩
def own_know (u v w : Int64) : Int32 := if u = 0 then 0 else if v = 0 then 0 else if w = 0 then 0 else 1
theorem own_know01 (u v w : Int64) : own_know u v w = 0 ∨ own_know u v w = 1 := by
  unfold own_know; repeat' split
  all_goals simp
theorem d9_0 : decode prog_25_method_16_code 0 = .ok (.aload_n 0, 1) := by decide +kernel
theorem d9_1 : decode prog_25_method_16_code 1 = .ok (.getfield 22, 3) := by decide +kernel
theorem d9_4 : decode prog_25_method_16_code 4 = .ok (.astore_n 1, 1) := by decide +kernel
theorem d9_5 : decode prog_25_method_16_code 5 = .ok (.aload_n 1, 1) := by decide +kernel
theorem d9_6 : decode prog_25_method_16_code 6 = .ok (.arraylength, 1) := by decide +kernel
theorem d9_7 : decode prog_25_method_16_code 7 = .ok (.istore_n 2, 1) := by decide +kernel
theorem d9_8 : decode prog_25_method_16_code 8 = .ok (.iconst 0, 1) := by decide +kernel
theorem d9_9 : decode prog_25_method_16_code 9 = .ok (.istore_n 3, 1) := by decide +kernel
theorem d9_10 : decode prog_25_method_16_code 10 = .ok (.iload_n 3, 1) := by decide +kernel
theorem d9_11 : decode prog_25_method_16_code 11 = .ok (.iload_n 2, 1) := by decide +kernel
theorem d9_12 : decode prog_25_method_16_code 12 = .ok (.if_icmp .ge 23, 3) := by decide +kernel
theorem d9_15 : decode prog_25_method_16_code 15 = .ok (.aload_n 1, 1) := by decide +kernel
theorem d9_16 : decode prog_25_method_16_code 16 = .ok (.iload_n 3, 1) := by decide +kernel
theorem d9_17 : decode prog_25_method_16_code 17 = .ok (.laload, 1) := by decide +kernel
theorem d9_18 : decode prog_25_method_16_code 18 = .ok (.lstore 4, 2) := by decide +kernel
theorem d9_20 : decode prog_25_method_16_code 20 = .ok (.lload 4, 2) := by decide +kernel
theorem d9_22 : decode prog_25_method_16_code 22 = .ok (.lconst 0, 1) := by decide +kernel
theorem d9_23 : decode prog_25_method_16_code 23 = .ok (.lcmp, 1) := by decide +kernel
theorem d9_24 : decode prog_25_method_16_code 24 = .ok (.ifCond .ne 5, 3) := by decide +kernel
theorem d9_27 : decode prog_25_method_16_code 27 = .ok (.iconst 0, 1) := by decide +kernel
theorem d9_28 : decode prog_25_method_16_code 28 = .ok (.ireturn, 1) := by decide +kernel
theorem d9_29 : decode prog_25_method_16_code 29 = .ok (.iinc 3 1, 3) := by decide +kernel
theorem d9_32 : decode prog_25_method_16_code 32 = .ok (.goto (-22), 3) := by decide +kernel
theorem d9_35 : decode prog_25_method_16_code 35 = .ok (.iconst 1, 1) := by decide +kernel
theorem d9_36 : decode prog_25_method_16_code 36 = .ok (.ireturn, 1) := by decide +kernel
set_option maxRecDepth 65536 in
set_option maxHeartbeats 40000000 in
theorem own_know_con (l : Launch) (Z : State) (a0 : Array Value) (hw : ∀ d ∈ tables_1, d.before a0 Z = true) (a rr mm hh : Addr) (u v z : Int64) (ms hs : List Value) (k pr ch : Int32) (h0 : Heap) (I0 : own_Runs Z h0 a rr mm hh [.long u, .long v, .long z] ms hs k pr ch) (ws : List Jvm.Cond) :
    own_Con l Z (⟨"tidemark/io/Runs", "knowsEvery", "()Z"⟩ : MethodName) prog_25_method_16_code 6 (some .boolean) ({ frames := 0, cells := 0, slots := 0, locals := 0 } : Room) #[(.ref a)] h0 (own_PQ h0 (.int (own_know u v z))) ws := by
  refine own_con (F := fun m => (mkF m 0 #[.val (.ref a), .unset, .unset, .unset, .unset, .unset] [])) (own_pn (by first | (simp [plainName, overriddenIn]; done) | decide +kernel)) (fun m => by first | (simp [entryFrame, mkF, argsToLocals, Value.category]; done) | rfl) ?_
  intro p e s m below meth c T X hx hby hml hZ hown hnm hret hlk eT
  show own_Go p e below (own_Out s (own_PQ h0 (.int (own_know u v z))) ({ frames := 0, cells := 0, slots := 0, locals := 0 } : Room).cells ({ frames := 0, cells := 0, slots := 0, locals := 0 } : Room).slots) (T.setTop (mkF m 0 #[.val (.ref a), .unset, .unset, .unset, .unset, .unset] []))
  obtain ⟨⟨o_E0, r_E0, r_A0, m_A0, h_A0⟩, ⟨o_self0, o_runs0, o_marks0, o_marked0, o_heard0, o_preceded0, o_chosen0⟩, ⟨ne_a_rr, ne_a_mm, ne_a_hh, ne_rr_mm, ne_rr_hh, ne_mm_hh⟩⟩ := I0
  show own_Go p e below (own_Out s (own_PQ h0 (.int (if u = 0 then 0 else if v = 0 then 0 else if z = 0 then 0 else 1))) 0 0) _
  refine own_go (fun _ => XS.aloadN X.here hx rfl (hb hby d9_0) rfl rfl) ?_
  show own_Go p e below _ (T.setTop (mkF m 1 #[.val (.ref a), .unset, .unset, .unset, .unset, .unset] [(.ref a)]))
  obtain ⟨T1, X1, e1, st1⟩ := getF X hx hZ hown (host := "") (Or.inl (hw _ (List.mem_of_getElem? (i := 18) rfl))) Via.refl eT o_runs0 (g := (mkF m 1 #[.val (.ref a), .unset, .unset, .unset, .unset, .unset] [(.ref a)])) rfl rfl (hb hby d9_1)
  refine own_go st1 ?_
  show own_Go p e below _ (T1.setTop (mkF m 4 #[.val (.ref a), .unset, .unset, .unset, .unset, .unset] [(.ref rr)]))
  refine own_go (fun _ => XS.astoreN X1.here hx rfl (hb hby d9_4) rfl rfl (l' := #[.val (.ref a), .val (.ref rr), .unset, .unset, .unset, .unset]) rfl) ?_
  show own_Go p e below _ (T1.setTop (mkF m 5 #[.val (.ref a), .val (.ref rr), .unset, .unset, .unset, .unset] []))
  refine own_go (fun _ => XS.aloadN X1.here hx rfl (hb hby d9_5) rfl rfl) ?_
  show own_Go p e below _ (T1.setTop (mkF m 6 #[.val (.ref a), .val (.ref rr), .unset, .unset, .unset, .unset] [(.ref rr)]))
  refine own_go (own_len X1 hx hZ e1 r_A0 (g := (mkF m 6 #[.val (.ref a), .val (.ref rr), .unset, .unset, .unset, .unset] [(.ref rr)])) rfl rfl (hb hby d9_6) (3 : Int32) rfl) ?_
  show own_Go p e below _ (T1.setTop (mkF m 7 #[.val (.ref a), .val (.ref rr), .unset, .unset, .unset, .unset] [(.int (3 : Int32))]))
  refine own_go (fun _ => XS.istoreN X1.here hx rfl (hb hby d9_7) rfl (l' := #[.val (.ref a), .val (.ref rr), .val (.int (3 : Int32)), .unset, .unset, .unset]) rfl) ?_
  show own_Go p e below _ (T1.setTop (mkF m 8 #[.val (.ref a), .val (.ref rr), .val (.int (3 : Int32)), .unset, .unset, .unset] []))
  refine own_go (fun _ => XS.iconst X1.here hx rfl (hb hby d9_8)) ?_
  show own_Go p e below _ (T1.setTop (mkF m 9 #[.val (.ref a), .val (.ref rr), .val (.int (3 : Int32)), .unset, .unset, .unset] [(.int (0 : Int32))]))
  refine own_go (fun _ => XS.istoreN X1.here hx rfl (hb hby d9_9) rfl (l' := #[.val (.ref a), .val (.ref rr), .val (.int (3 : Int32)), .val (.int (0 : Int32)), .unset, .unset]) rfl) ?_
  show own_Go p e below _ (T1.setTop (mkF m 10 #[.val (.ref a), .val (.ref rr), .val (.int (3 : Int32)), .val (.int (0 : Int32)), .unset, .unset] []))
  refine own_go (fun _ => XS.iloadN X1.here hx rfl (hb hby d9_10) rfl) ?_
  show own_Go p e below _ (T1.setTop (mkF m 11 #[.val (.ref a), .val (.ref rr), .val (.int (3 : Int32)), .val (.int (0 : Int32)), .unset, .unset] [(.int (0 : Int32))]))
  refine own_go (fun _ => XS.iloadN X1.here hx rfl (hb hby d9_11) rfl) ?_
  show own_Go p e below _ (T1.setTop (mkF m 12 #[.val (.ref a), .val (.ref rr), .val (.int (3 : Int32)), .val (.int (0 : Int32)), .unset, .unset] [(.int (3 : Int32)), (.int (0 : Int32))]))
  refine own_go (fun _ => XS.icmpNo X1.here hx rfl (hb hby d9_12) rfl (XT.ii_ge_f (by decide))) ?_
  show own_Go p e below _ (T1.setTop (mkF m 15 #[.val (.ref a), .val (.ref rr), .val (.int (3 : Int32)), .val (.int (0 : Int32)), .unset, .unset] []))
  refine own_go (fun _ => XS.aloadN X1.here hx rfl (hb hby d9_15) rfl rfl) ?_
  show own_Go p e below _ (T1.setTop (mkF m 16 #[.val (.ref a), .val (.ref rr), .val (.int (3 : Int32)), .val (.int (0 : Int32)), .unset, .unset] [(.ref rr)]))
  refine own_go (fun _ => XS.iloadN X1.here hx rfl (hb hby d9_16) rfl) ?_
  show own_Go p e below _ (T1.setTop (mkF m 17 #[.val (.ref a), .val (.ref rr), .val (.int (3 : Int32)), .val (.int (0 : Int32)), .unset, .unset] [(.int (0 : Int32)), (.ref rr)]))
  refine own_go (own_ldJ X1 hx hZ e1 r_A0 (g := (mkF m 17 #[.val (.ref a), .val (.ref rr), .val (.int (3 : Int32)), .val (.int (0 : Int32)), .unset, .unset] [(.int (0 : Int32)), (.ref rr)])) rfl rfl (hb hby d9_17) 0 (by decide) (x := (.long u)) rfl) ?_
  show own_Go p e below _ (T1.setTop (mkF m 18 #[.val (.ref a), .val (.ref rr), .val (.int (3 : Int32)), .val (.int (0 : Int32)), .unset, .unset] [(.long u)]))
  refine own_go (fun _ => XT.lstore X1.here hx rfl (hb hby d9_18) rfl (l' := #[.val (.ref a), .val (.ref rr), .val (.int (3 : Int32)), .val (.int (0 : Int32)), .val (.long u), .second]) rfl) ?_
  show own_Go p e below _ (T1.setTop (mkF m 20 #[.val (.ref a), .val (.ref rr), .val (.int (3 : Int32)), .val (.int (0 : Int32)), .val (.long u), .second] []))
  refine own_go (fun _ => XT.lload X1.here hx rfl (hb hby d9_20) rfl) ?_
  show own_Go p e below _ (T1.setTop (mkF m 22 #[.val (.ref a), .val (.ref rr), .val (.int (3 : Int32)), .val (.int (0 : Int32)), .val (.long u), .second] [(.long u)]))
  refine own_go (fun _ => XT.lconst X1.here hx rfl (hb hby d9_22)) ?_
  show own_Go p e below _ (T1.setTop (mkF m 23 #[.val (.ref a), .val (.ref rr), .val (.int (3 : Int32)), .val (.int (0 : Int32)), .val (.long u), .second] [(.long (0 : Int64)), (.long u)]))
  refine own_go (fun _ => XT.lcmp X1.here hx rfl (hb hby d9_23) rfl) ?_
  show own_Go p e below _ (T1.setTop (mkF m 24 #[.val (.ref a), .val (.ref rr), .val (.int (3 : Int32)), .val (.int (0 : Int32)), .val (.long u), .second] [(.int (XT.cmpL u (0 : Int64)))]))
  refine own_iteI (fun hc0 => ?_) (fun hc0 => ?_)
  · skip
    refine own_go (fun _ => XS.ifNo X1.here hx rfl (hb hby d9_24) rfl (XT.ll_ne_f hc0)) ?_
    show own_Go p e below _ (T1.setTop (mkF m 27 #[.val (.ref a), .val (.ref rr), .val (.int (3 : Int32)), .val (.int (0 : Int32)), .val (.long u), .second] []))
    refine own_go (fun _ => XS.iconst X1.here hx rfl (hb hby d9_27)) ?_
    show own_Go p e below _ (T1.setTop (mkF m 28 #[.val (.ref a), .val (.ref rr), .val (.int (3 : Int32)), .val (.int (0 : Int32)), .val (.long u), .second] [(.int (0 : Int32))]))
    exact own_iret X1 hx hlk hret (Or.inr (Or.inl rfl)) rfl (hb hby d9_28) (Nat.zero_le _) (Nat.zero_le _) ⟨rfl, e1, rfl⟩
  refine own_go (fun _ => XS.ifYes X1.here hx rfl (pc0 := 24) (pc' := 29) rfl (hb hby d9_24) rfl (XT.ll_ne_t hc0) (by decide) (by decide)) ?_
  show own_Go p e below _ (T1.setTop (mkF m 29 #[.val (.ref a), .val (.ref rr), .val (.int (3 : Int32)), .val (.int (0 : Int32)), .val (.long u), .second] []))
  refine own_go (fun _ => XT.iincV X1.here hx rfl (1 : Int32) (hb hby d9_29) rfl rfl (l' := #[.val (.ref a), .val (.ref rr), .val (.int (3 : Int32)), .val (.int ((0 : Int32) + (1 : Int32))), .val (.long u), .second]) rfl) ?_
  show own_Go p e below _ (T1.setTop (mkF m 32 #[.val (.ref a), .val (.ref rr), .val (.int (3 : Int32)), .val (.int ((0 : Int32) + (1 : Int32))), .val (.long u), .second] []))
  refine own_go (fun _ => XS.goto X1.here hx rfl (pc0 := 32) (pc' := 10) rfl (hb hby d9_32) (by decide) (by decide)) ?_
  show own_Go p e below _ (T1.setTop (mkF m 10 #[.val (.ref a), .val (.ref rr), .val (.int (3 : Int32)), .val (.int ((0 : Int32) + (1 : Int32))), .val (.long u), .second] []))
  refine own_go (fun _ => XS.iloadN X1.here hx rfl (hb hby d9_10) rfl) ?_
  show own_Go p e below _ (T1.setTop (mkF m 11 #[.val (.ref a), .val (.ref rr), .val (.int (3 : Int32)), .val (.int ((0 : Int32) + (1 : Int32))), .val (.long u), .second] [(.int ((0 : Int32) + (1 : Int32)))]))
  refine own_go (fun _ => XS.iloadN X1.here hx rfl (hb hby d9_11) rfl) ?_
  show own_Go p e below _ (T1.setTop (mkF m 12 #[.val (.ref a), .val (.ref rr), .val (.int (3 : Int32)), .val (.int ((0 : Int32) + (1 : Int32))), .val (.long u), .second] [(.int (3 : Int32)), (.int ((0 : Int32) + (1 : Int32)))]))
  refine own_go (fun _ => XS.icmpNo X1.here hx rfl (hb hby d9_12) rfl (XT.ii_ge_f (by decide))) ?_
  show own_Go p e below _ (T1.setTop (mkF m 15 #[.val (.ref a), .val (.ref rr), .val (.int (3 : Int32)), .val (.int ((0 : Int32) + (1 : Int32))), .val (.long u), .second] []))
  refine own_go (fun _ => XS.aloadN X1.here hx rfl (hb hby d9_15) rfl rfl) ?_
  show own_Go p e below _ (T1.setTop (mkF m 16 #[.val (.ref a), .val (.ref rr), .val (.int (3 : Int32)), .val (.int ((0 : Int32) + (1 : Int32))), .val (.long u), .second] [(.ref rr)]))
  refine own_go (fun _ => XS.iloadN X1.here hx rfl (hb hby d9_16) rfl) ?_
  show own_Go p e below _ (T1.setTop (mkF m 17 #[.val (.ref a), .val (.ref rr), .val (.int (3 : Int32)), .val (.int ((0 : Int32) + (1 : Int32))), .val (.long u), .second] [(.int ((0 : Int32) + (1 : Int32))), (.ref rr)]))
  refine own_go (own_ldJ X1 hx hZ e1 r_A0 (g := (mkF m 17 #[.val (.ref a), .val (.ref rr), .val (.int (3 : Int32)), .val (.int ((0 : Int32) + (1 : Int32))), .val (.long u), .second] [(.int ((0 : Int32) + (1 : Int32))), (.ref rr)])) rfl rfl (hb hby d9_17) 1 (by decide) (x := (.long v)) rfl) ?_
  show own_Go p e below _ (T1.setTop (mkF m 18 #[.val (.ref a), .val (.ref rr), .val (.int (3 : Int32)), .val (.int ((0 : Int32) + (1 : Int32))), .val (.long u), .second] [(.long v)]))
  refine own_go (fun _ => XT.lstore X1.here hx rfl (hb hby d9_18) rfl (l' := #[.val (.ref a), .val (.ref rr), .val (.int (3 : Int32)), .val (.int ((0 : Int32) + (1 : Int32))), .val (.long v), .second]) rfl) ?_
  show own_Go p e below _ (T1.setTop (mkF m 20 #[.val (.ref a), .val (.ref rr), .val (.int (3 : Int32)), .val (.int ((0 : Int32) + (1 : Int32))), .val (.long v), .second] []))
  refine own_go (fun _ => XT.lload X1.here hx rfl (hb hby d9_20) rfl) ?_
  show own_Go p e below _ (T1.setTop (mkF m 22 #[.val (.ref a), .val (.ref rr), .val (.int (3 : Int32)), .val (.int ((0 : Int32) + (1 : Int32))), .val (.long v), .second] [(.long v)]))
  refine own_go (fun _ => XT.lconst X1.here hx rfl (hb hby d9_22)) ?_
  show own_Go p e below _ (T1.setTop (mkF m 23 #[.val (.ref a), .val (.ref rr), .val (.int (3 : Int32)), .val (.int ((0 : Int32) + (1 : Int32))), .val (.long v), .second] [(.long (0 : Int64)), (.long v)]))
  refine own_go (fun _ => XT.lcmp X1.here hx rfl (hb hby d9_23) rfl) ?_
  show own_Go p e below _ (T1.setTop (mkF m 24 #[.val (.ref a), .val (.ref rr), .val (.int (3 : Int32)), .val (.int ((0 : Int32) + (1 : Int32))), .val (.long v), .second] [(.int (XT.cmpL v (0 : Int64)))]))
  refine own_iteI (fun hc1 => ?_) (fun hc1 => ?_)
  · skip
    refine own_go (fun _ => XS.ifNo X1.here hx rfl (hb hby d9_24) rfl (XT.ll_ne_f hc1)) ?_
    show own_Go p e below _ (T1.setTop (mkF m 27 #[.val (.ref a), .val (.ref rr), .val (.int (3 : Int32)), .val (.int ((0 : Int32) + (1 : Int32))), .val (.long v), .second] []))
    refine own_go (fun _ => XS.iconst X1.here hx rfl (hb hby d9_27)) ?_
    show own_Go p e below _ (T1.setTop (mkF m 28 #[.val (.ref a), .val (.ref rr), .val (.int (3 : Int32)), .val (.int ((0 : Int32) + (1 : Int32))), .val (.long v), .second] [(.int (0 : Int32))]))
    exact own_iret X1 hx hlk hret (Or.inr (Or.inl rfl)) rfl (hb hby d9_28) (Nat.zero_le _) (Nat.zero_le _) ⟨rfl, e1, rfl⟩
  refine own_go (fun _ => XS.ifYes X1.here hx rfl (pc0 := 24) (pc' := 29) rfl (hb hby d9_24) rfl (XT.ll_ne_t hc1) (by decide) (by decide)) ?_
  show own_Go p e below _ (T1.setTop (mkF m 29 #[.val (.ref a), .val (.ref rr), .val (.int (3 : Int32)), .val (.int ((0 : Int32) + (1 : Int32))), .val (.long v), .second] []))
  refine own_go (fun _ => XT.iincV X1.here hx rfl (1 : Int32) (hb hby d9_29) rfl rfl (l' := #[.val (.ref a), .val (.ref rr), .val (.int (3 : Int32)), .val (.int (((0 : Int32) + (1 : Int32)) + (1 : Int32))), .val (.long v), .second]) rfl) ?_
  show own_Go p e below _ (T1.setTop (mkF m 32 #[.val (.ref a), .val (.ref rr), .val (.int (3 : Int32)), .val (.int (((0 : Int32) + (1 : Int32)) + (1 : Int32))), .val (.long v), .second] []))
  refine own_go (fun _ => XS.goto X1.here hx rfl (pc0 := 32) (pc' := 10) rfl (hb hby d9_32) (by decide) (by decide)) ?_
  show own_Go p e below _ (T1.setTop (mkF m 10 #[.val (.ref a), .val (.ref rr), .val (.int (3 : Int32)), .val (.int (((0 : Int32) + (1 : Int32)) + (1 : Int32))), .val (.long v), .second] []))
  refine own_go (fun _ => XS.iloadN X1.here hx rfl (hb hby d9_10) rfl) ?_
  show own_Go p e below _ (T1.setTop (mkF m 11 #[.val (.ref a), .val (.ref rr), .val (.int (3 : Int32)), .val (.int (((0 : Int32) + (1 : Int32)) + (1 : Int32))), .val (.long v), .second] [(.int (((0 : Int32) + (1 : Int32)) + (1 : Int32)))]))
  refine own_go (fun _ => XS.iloadN X1.here hx rfl (hb hby d9_11) rfl) ?_
  show own_Go p e below _ (T1.setTop (mkF m 12 #[.val (.ref a), .val (.ref rr), .val (.int (3 : Int32)), .val (.int (((0 : Int32) + (1 : Int32)) + (1 : Int32))), .val (.long v), .second] [(.int (3 : Int32)), (.int (((0 : Int32) + (1 : Int32)) + (1 : Int32)))]))
  refine own_go (fun _ => XS.icmpNo X1.here hx rfl (hb hby d9_12) rfl (XT.ii_ge_f (by decide))) ?_
  show own_Go p e below _ (T1.setTop (mkF m 15 #[.val (.ref a), .val (.ref rr), .val (.int (3 : Int32)), .val (.int (((0 : Int32) + (1 : Int32)) + (1 : Int32))), .val (.long v), .second] []))
  refine own_go (fun _ => XS.aloadN X1.here hx rfl (hb hby d9_15) rfl rfl) ?_
  show own_Go p e below _ (T1.setTop (mkF m 16 #[.val (.ref a), .val (.ref rr), .val (.int (3 : Int32)), .val (.int (((0 : Int32) + (1 : Int32)) + (1 : Int32))), .val (.long v), .second] [(.ref rr)]))
  refine own_go (fun _ => XS.iloadN X1.here hx rfl (hb hby d9_16) rfl) ?_
  show own_Go p e below _ (T1.setTop (mkF m 17 #[.val (.ref a), .val (.ref rr), .val (.int (3 : Int32)), .val (.int (((0 : Int32) + (1 : Int32)) + (1 : Int32))), .val (.long v), .second] [(.int (((0 : Int32) + (1 : Int32)) + (1 : Int32))), (.ref rr)]))
  refine own_go (own_ldJ X1 hx hZ e1 r_A0 (g := (mkF m 17 #[.val (.ref a), .val (.ref rr), .val (.int (3 : Int32)), .val (.int (((0 : Int32) + (1 : Int32)) + (1 : Int32))), .val (.long v), .second] [(.int (((0 : Int32) + (1 : Int32)) + (1 : Int32))), (.ref rr)])) rfl rfl (hb hby d9_17) 2 (by decide) (x := (.long z)) rfl) ?_
  show own_Go p e below _ (T1.setTop (mkF m 18 #[.val (.ref a), .val (.ref rr), .val (.int (3 : Int32)), .val (.int (((0 : Int32) + (1 : Int32)) + (1 : Int32))), .val (.long v), .second] [(.long z)]))
  refine own_go (fun _ => XT.lstore X1.here hx rfl (hb hby d9_18) rfl (l' := #[.val (.ref a), .val (.ref rr), .val (.int (3 : Int32)), .val (.int (((0 : Int32) + (1 : Int32)) + (1 : Int32))), .val (.long z), .second]) rfl) ?_
  show own_Go p e below _ (T1.setTop (mkF m 20 #[.val (.ref a), .val (.ref rr), .val (.int (3 : Int32)), .val (.int (((0 : Int32) + (1 : Int32)) + (1 : Int32))), .val (.long z), .second] []))
  refine own_go (fun _ => XT.lload X1.here hx rfl (hb hby d9_20) rfl) ?_
  show own_Go p e below _ (T1.setTop (mkF m 22 #[.val (.ref a), .val (.ref rr), .val (.int (3 : Int32)), .val (.int (((0 : Int32) + (1 : Int32)) + (1 : Int32))), .val (.long z), .second] [(.long z)]))
  refine own_go (fun _ => XT.lconst X1.here hx rfl (hb hby d9_22)) ?_
  show own_Go p e below _ (T1.setTop (mkF m 23 #[.val (.ref a), .val (.ref rr), .val (.int (3 : Int32)), .val (.int (((0 : Int32) + (1 : Int32)) + (1 : Int32))), .val (.long z), .second] [(.long (0 : Int64)), (.long z)]))
  refine own_go (fun _ => XT.lcmp X1.here hx rfl (hb hby d9_23) rfl) ?_
  show own_Go p e below _ (T1.setTop (mkF m 24 #[.val (.ref a), .val (.ref rr), .val (.int (3 : Int32)), .val (.int (((0 : Int32) + (1 : Int32)) + (1 : Int32))), .val (.long z), .second] [(.int (XT.cmpL z (0 : Int64)))]))
  refine own_iteI (fun hc2 => ?_) (fun hc2 => ?_)
  · skip
    refine own_go (fun _ => XS.ifNo X1.here hx rfl (hb hby d9_24) rfl (XT.ll_ne_f hc2)) ?_
    show own_Go p e below _ (T1.setTop (mkF m 27 #[.val (.ref a), .val (.ref rr), .val (.int (3 : Int32)), .val (.int (((0 : Int32) + (1 : Int32)) + (1 : Int32))), .val (.long z), .second] []))
    refine own_go (fun _ => XS.iconst X1.here hx rfl (hb hby d9_27)) ?_
    show own_Go p e below _ (T1.setTop (mkF m 28 #[.val (.ref a), .val (.ref rr), .val (.int (3 : Int32)), .val (.int (((0 : Int32) + (1 : Int32)) + (1 : Int32))), .val (.long z), .second] [(.int (0 : Int32))]))
    exact own_iret X1 hx hlk hret (Or.inr (Or.inl rfl)) rfl (hb hby d9_28) (Nat.zero_le _) (Nat.zero_le _) ⟨rfl, e1, rfl⟩
  refine own_go (fun _ => XS.ifYes X1.here hx rfl (pc0 := 24) (pc' := 29) rfl (hb hby d9_24) rfl (XT.ll_ne_t hc2) (by decide) (by decide)) ?_
  show own_Go p e below _ (T1.setTop (mkF m 29 #[.val (.ref a), .val (.ref rr), .val (.int (3 : Int32)), .val (.int (((0 : Int32) + (1 : Int32)) + (1 : Int32))), .val (.long z), .second] []))
  refine own_go (fun _ => XT.iincV X1.here hx rfl (1 : Int32) (hb hby d9_29) rfl rfl (l' := #[.val (.ref a), .val (.ref rr), .val (.int (3 : Int32)), .val (.int ((((0 : Int32) + (1 : Int32)) + (1 : Int32)) + (1 : Int32))), .val (.long z), .second]) rfl) ?_
  show own_Go p e below _ (T1.setTop (mkF m 32 #[.val (.ref a), .val (.ref rr), .val (.int (3 : Int32)), .val (.int ((((0 : Int32) + (1 : Int32)) + (1 : Int32)) + (1 : Int32))), .val (.long z), .second] []))
  refine own_go (fun _ => XS.goto X1.here hx rfl (pc0 := 32) (pc' := 10) rfl (hb hby d9_32) (by decide) (by decide)) ?_
  show own_Go p e below _ (T1.setTop (mkF m 10 #[.val (.ref a), .val (.ref rr), .val (.int (3 : Int32)), .val (.int ((((0 : Int32) + (1 : Int32)) + (1 : Int32)) + (1 : Int32))), .val (.long z), .second] []))
  refine own_go (fun _ => XS.iloadN X1.here hx rfl (hb hby d9_10) rfl) ?_
  show own_Go p e below _ (T1.setTop (mkF m 11 #[.val (.ref a), .val (.ref rr), .val (.int (3 : Int32)), .val (.int ((((0 : Int32) + (1 : Int32)) + (1 : Int32)) + (1 : Int32))), .val (.long z), .second] [(.int ((((0 : Int32) + (1 : Int32)) + (1 : Int32)) + (1 : Int32)))]))
  refine own_go (fun _ => XS.iloadN X1.here hx rfl (hb hby d9_11) rfl) ?_
  show own_Go p e below _ (T1.setTop (mkF m 12 #[.val (.ref a), .val (.ref rr), .val (.int (3 : Int32)), .val (.int ((((0 : Int32) + (1 : Int32)) + (1 : Int32)) + (1 : Int32))), .val (.long z), .second] [(.int (3 : Int32)), (.int ((((0 : Int32) + (1 : Int32)) + (1 : Int32)) + (1 : Int32)))]))
  refine own_go (fun _ => XS.icmpYes X1.here hx rfl (pc0 := 12) (pc' := 35) rfl (hb hby d9_12) rfl (XT.ii_ge_t (by decide)) (by decide) (by decide)) ?_
  show own_Go p e below _ (T1.setTop (mkF m 35 #[.val (.ref a), .val (.ref rr), .val (.int (3 : Int32)), .val (.int ((((0 : Int32) + (1 : Int32)) + (1 : Int32)) + (1 : Int32))), .val (.long z), .second] []))
  refine own_go (fun _ => XS.iconst X1.here hx rfl (hb hby d9_35)) ?_
  show own_Go p e below _ (T1.setTop (mkF m 36 #[.val (.ref a), .val (.ref rr), .val (.int (3 : Int32)), .val (.int ((((0 : Int32) + (1 : Int32)) + (1 : Int32)) + (1 : Int32))), .val (.long z), .second] [(.int (1 : Int32))]))
  exact own_iret X1 hx hlk hret (Or.inr (Or.inl rfl)) rfl (hb hby d9_36) (Nat.zero_le _) (Nat.zero_le _) ⟨rfl, e1, rfl⟩
theorem d8_0 : decode prog_25_method_15_code 0 = .ok (.iconst 0, 1) := by decide +kernel
theorem d8_1 : decode prog_25_method_15_code 1 = .ok (.istore_n 2, 1) := by decide +kernel
theorem d8_2 : decode prog_25_method_15_code 2 = .ok (.iconst 0, 1) := by decide +kernel
theorem d8_3 : decode prog_25_method_15_code 3 = .ok (.istore_n 3, 1) := by decide +kernel
theorem d8_4 : decode prog_25_method_15_code 4 = .ok (.iconst 0, 1) := by decide +kernel
theorem d8_5 : decode prog_25_method_15_code 5 = .ok (.istore 4, 2) := by decide +kernel
theorem d8_7 : decode prog_25_method_15_code 7 = .ok (.iload 4, 2) := by decide +kernel
theorem d8_9 : decode prog_25_method_15_code 9 = .ok (.aload_n 0, 1) := by decide +kernel
theorem d8_10 : decode prog_25_method_15_code 10 = .ok (.getfield 22, 3) := by decide +kernel
theorem d8_13 : decode prog_25_method_15_code 13 = .ok (.arraylength, 1) := by decide +kernel
theorem d8_14 : decode prog_25_method_15_code 14 = .ok (.if_icmp .ge 78, 3) := by decide +kernel
theorem d8_17 : decode prog_25_method_15_code 17 = .ok (.aload_n 1, 1) := by decide +kernel
theorem d8_18 : decode prog_25_method_15_code 18 = .ok (.iload 4, 2) := by decide +kernel
theorem d8_20 : decode prog_25_method_15_code 20 = .ok (.laload, 1) := by decide +kernel
theorem d8_21 : decode prog_25_method_15_code 21 = .ok (.lconst 0, 1) := by decide +kernel
theorem d8_22 : decode prog_25_method_15_code 22 = .ok (.lcmp, 1) := by decide +kernel
theorem d8_23 : decode prog_25_method_15_code 23 = .ok (.ifCond .eq 63, 3) := by decide +kernel
theorem d8_26 : decode prog_25_method_15_code 26 = .ok (.aload_n 0, 1) := by decide +kernel
theorem d8_27 : decode prog_25_method_15_code 27 = .ok (.getfield 22, 3) := by decide +kernel
theorem d8_30 : decode prog_25_method_15_code 30 = .ok (.iload 4, 2) := by decide +kernel
theorem d8_32 : decode prog_25_method_15_code 32 = .ok (.laload, 1) := by decide +kernel
theorem d8_33 : decode prog_25_method_15_code 33 = .ok (.lconst 0, 1) := by decide +kernel
theorem d8_34 : decode prog_25_method_15_code 34 = .ok (.lcmp, 1) := by decide +kernel
theorem d8_35 : decode prog_25_method_15_code 35 = .ok (.ifCond .eq 18, 3) := by decide +kernel
theorem d8_53 : decode prog_25_method_15_code 53 = .ok (.iload_n 3, 1) := by decide +kernel
theorem d8_54 : decode prog_25_method_15_code 54 = .ok (.aload_n 0, 1) := by decide +kernel
theorem d8_55 : decode prog_25_method_15_code 55 = .ok (.getfield 22, 3) := by decide +kernel
theorem d8_58 : decode prog_25_method_15_code 58 = .ok (.iload 4, 2) := by decide +kernel
theorem d8_60 : decode prog_25_method_15_code 60 = .ok (.laload, 1) := by decide +kernel
theorem d8_61 : decode prog_25_method_15_code 61 = .ok (.lconst 0, 1) := by decide +kernel
theorem d8_62 : decode prog_25_method_15_code 62 = .ok (.lcmp, 1) := by decide +kernel
theorem d8_63 : decode prog_25_method_15_code 63 = .ok (.ifCond .eq 7, 3) := by decide +kernel
theorem d8_70 : decode prog_25_method_15_code 70 = .ok (.iconst 0, 1) := by decide +kernel
theorem d8_71 : decode prog_25_method_15_code 71 = .ok (.ior, 1) := by decide +kernel
theorem d8_72 : decode prog_25_method_15_code 72 = .ok (.istore_n 3, 1) := by decide +kernel
theorem d8_73 : decode prog_25_method_15_code 73 = .ok (.aload_n 0, 1) := by decide +kernel
theorem d8_74 : decode prog_25_method_15_code 74 = .ok (.getfield 22, 3) := by decide +kernel
theorem d8_77 : decode prog_25_method_15_code 77 = .ok (.iload 4, 2) := by decide +kernel
theorem d8_79 : decode prog_25_method_15_code 79 = .ok (.aload_n 1, 1) := by decide +kernel
theorem d8_80 : decode prog_25_method_15_code 80 = .ok (.iload 4, 2) := by decide +kernel
theorem d8_82 : decode prog_25_method_15_code 82 = .ok (.laload, 1) := by decide +kernel
theorem d8_83 : decode prog_25_method_15_code 83 = .ok (.lastore, 1) := by decide +kernel
theorem d8_84 : decode prog_25_method_15_code 84 = .ok (.iconst 1, 1) := by decide +kernel
theorem d8_85 : decode prog_25_method_15_code 85 = .ok (.istore_n 2, 1) := by decide +kernel
theorem d8_86 : decode prog_25_method_15_code 86 = .ok (.iinc 4 1, 3) := by decide +kernel
theorem d8_89 : decode prog_25_method_15_code 89 = .ok (.goto (-82), 3) := by decide +kernel
theorem d8_92 : decode prog_25_method_15_code 92 = .ok (.iload_n 3, 1) := by decide +kernel
theorem d8_93 : decode prog_25_method_15_code 93 = .ok (.ifCond .eq 8, 3) := by decide +kernel
theorem d8_101 : decode prog_25_method_15_code 101 = .ok (.iload_n 2, 1) := by decide +kernel
theorem d8_102 : decode prog_25_method_15_code 102 = .ok (.ifCond .eq 39, 3) := by decide +kernel
theorem d8_105 : decode prog_25_method_15_code 105 = .ok (.aload_n 0, 1) := by decide +kernel
theorem d8_106 : decode prog_25_method_15_code 106 = .ok (.getfield 26, 3) := by decide +kernel
theorem d8_109 : decode prog_25_method_15_code 109 = .ok (.aload_n 0, 1) := by decide +kernel
theorem d8_110 : decode prog_25_method_15_code 110 = .ok (.dup, 1) := by decide +kernel
theorem d8_111 : decode prog_25_method_15_code 111 = .ok (.getfield 29, 3) := by decide +kernel
theorem d8_114 : decode prog_25_method_15_code 114 = .ok (.dup_x1, 1) := by decide +kernel
theorem d8_115 : decode prog_25_method_15_code 115 = .ok (.iconst 1, 1) := by decide +kernel
theorem d8_116 : decode prog_25_method_15_code 116 = .ok (.iadd, 1) := by decide +kernel
theorem d8_117 : decode prog_25_method_15_code 117 = .ok (.putfield 29, 3) := by decide +kernel
theorem d8_120 : decode prog_25_method_15_code 120 = .ok (.aload_n 0, 1) := by decide +kernel
theorem d8_121 : decode prog_25_method_15_code 121 = .ok (.getfield 22, 3) := by decide +kernel
theorem d8_124 : decode prog_25_method_15_code 124 = .ok (.invokestatic 32, 3) := by decide +kernel
theorem d8_127 : decode prog_25_method_15_code 127 = .ok (.lastore, 1) := by decide +kernel
theorem d8_128 : decode prog_25_method_15_code 128 = .ok (.aload_n 0, 1) := by decide +kernel
theorem d8_129 : decode prog_25_method_15_code 129 = .ok (.dup, 1) := by decide +kernel
theorem d8_130 : decode prog_25_method_15_code 130 = .ok (.getfield 95, 3) := by decide +kernel
theorem d8_133 : decode prog_25_method_15_code 133 = .ok (.aload_n 0, 1) := by decide +kernel
theorem d8_134 : decode prog_25_method_15_code 134 = .ok (.invokevirtual 113, 3) := by decide +kernel
theorem d8_137 : decode prog_25_method_15_code 137 = .ok (.ior, 1) := by decide +kernel
theorem d8_138 : decode prog_25_method_15_code 138 = .ok (.putfield 95, 3) := by decide +kernel
theorem d8_141 : decode prog_25_method_15_code 141 = .ok (.return_, 1) := by decide +kernel
set_option maxRecDepth 65536 in
set_option maxHeartbeats 40000000 in
theorem own_learn_con (l : Launch) (Z : State) (a0 : Array Value) (hw : ∀ d ∈ tables_1, d.before a0 Z = true) (a rr mm hh tt : Addr) (r0 y0 y1 : Int64) (hs : List Value) (pr : Int32) (n0 : Nat) (h0 : Heap) (I0 : own_Runs Z h0 a rr mm hh [.long r0, .long 0, .long 0] [.long (own_mark r0 0 0), .long 0, .long 0] hs 1 pr 0) (t_A0 : own_AV Z h0 tt .long [.long 0, .long y0, .long y1]) (ne_tt_rr : tt ≠ rr) (ne_tt_mm : tt ≠ mm) (ne_a_tt : a ≠ tt) (ga : n0 ≤ a) (gr : n0 ≤ rr) (gm : n0 ≤ mm) (gh : n0 ≤ hh) (ws : List Jvm.Cond) :
    own_Con l Z (⟨"tidemark/io/Runs", "learn", "([J)V"⟩ : MethodName) prog_25_method_15_code 5 none ({ frames := 2, cells := 0, slots := 0, locals := 80 } : Room) #[(.ref a), (.ref tt)] h0 (fun v h L => v = none ∧ Fr n0 L ∧ Keep h0 h [a, rr, mm] ∧ ∃ ms' k' ch' i, own_Runs Z h a rr mm hh [.long r0, .long y0, .long y1] ms' hs k' pr ch' ∧ k'.toInt = ((i + 1 : Nat) : Int) ∧ (∃ q : Int64, ms'[i]? = some (.long q) ∧ q ≠ 0) ∧ ms'.length = 3) ws := by
  refine own_con (F := fun m => (mkF m 0 #[.val (.ref a), .val (.ref tt), .unset, .unset, .unset] [])) (own_pn (by first | (simp [plainName, overriddenIn]; done) | decide +kernel)) (fun m => by first | (simp [entryFrame, mkF, argsToLocals, Value.category]; done) | rfl) ?_
  intro p e s m below meth c T X hx hby hml hZ hown hnm hret hlk eT
  show own_Go p e below (own_Out s (fun v h L => v = none ∧ Fr n0 L ∧ Keep h0 h [a, rr, mm] ∧ ∃ ms' k' ch' i, own_Runs Z h a rr mm hh [.long r0, .long y0, .long y1] ms' hs k' pr ch' ∧ k'.toInt = ((i + 1 : Nat) : Int) ∧ (∃ q : Int64, ms'[i]? = some (.long q) ∧ q ≠ 0) ∧ ms'.length = 3) ({ frames := 2, cells := 0, slots := 0, locals := 80 } : Room).cells ({ frames := 2, cells := 0, slots := 0, locals := 80 } : Room).slots) (T.setTop (mkF m 0 #[.val (.ref a), .val (.ref tt), .unset, .unset, .unset] []))
  obtain ⟨⟨o_E0, r_E0, r_A0, m_A0, h_A0⟩, ⟨o_self0, o_runs0, o_marks0, o_marked0, o_heard0, o_preceded0, o_chosen0⟩, ⟨ne_a_rr, ne_a_mm, ne_a_hh, ne_rr_mm, ne_rr_hh, ne_mm_hh⟩⟩ := I0
  have N0 := Fr.nil n0
  have K0 := Keep.refl h0 [a, rr, mm]
  refine own_go (fun _ => XS.iconst X.here hx rfl (hb hby d8_0)) ?_
  show own_Go p e below _ (T.setTop (mkF m 1 #[.val (.ref a), .val (.ref tt), .unset, .unset, .unset] [(.int (0 : Int32))]))
  refine own_go (fun _ => XS.istoreN X.here hx rfl (hb hby d8_1) rfl (l' := #[.val (.ref a), .val (.ref tt), .val (.int (0 : Int32)), .unset, .unset]) rfl) ?_
  show own_Go p e below _ (T.setTop (mkF m 2 #[.val (.ref a), .val (.ref tt), .val (.int (0 : Int32)), .unset, .unset] []))
  refine own_go (fun _ => XS.iconst X.here hx rfl (hb hby d8_2)) ?_
  show own_Go p e below _ (T.setTop (mkF m 3 #[.val (.ref a), .val (.ref tt), .val (.int (0 : Int32)), .unset, .unset] [(.int (0 : Int32))]))
  refine own_go (fun _ => XS.istoreN X.here hx rfl (hb hby d8_3) rfl (l' := #[.val (.ref a), .val (.ref tt), .val (.int (0 : Int32)), .val (.int (0 : Int32)), .unset]) rfl) ?_
  show own_Go p e below _ (T.setTop (mkF m 4 #[.val (.ref a), .val (.ref tt), .val (.int (0 : Int32)), .val (.int (0 : Int32)), .unset] []))
  refine own_go (fun _ => XS.iconst X.here hx rfl (hb hby d8_4)) ?_
  show own_Go p e below _ (T.setTop (mkF m 5 #[.val (.ref a), .val (.ref tt), .val (.int (0 : Int32)), .val (.int (0 : Int32)), .unset] [(.int (0 : Int32))]))
  refine own_go (fun _ => XS.istore X.here hx rfl (hb hby d8_5) rfl (l' := #[.val (.ref a), .val (.ref tt), .val (.int (0 : Int32)), .val (.int (0 : Int32)), .val (.int (0 : Int32))]) rfl) ?_
  show own_Go p e below _ (T.setTop (mkF m 7 #[.val (.ref a), .val (.ref tt), .val (.int (0 : Int32)), .val (.int (0 : Int32)), .val (.int (0 : Int32))] []))
  refine own_go (fun _ => XS.iload X.here hx rfl (hb hby d8_7) rfl) ?_
  show own_Go p e below _ (T.setTop (mkF m 9 #[.val (.ref a), .val (.ref tt), .val (.int (0 : Int32)), .val (.int (0 : Int32)), .val (.int (0 : Int32))] [(.int (0 : Int32))]))
  refine own_go (fun _ => XS.aloadN X.here hx rfl (hb hby d8_9) rfl rfl) ?_
  show own_Go p e below _ (T.setTop (mkF m 10 #[.val (.ref a), .val (.ref tt), .val (.int (0 : Int32)), .val (.int (0 : Int32)), .val (.int (0 : Int32))] [(.ref a), (.int (0 : Int32))]))
  obtain ⟨T1, X1, e1, st1⟩ := getF X hx hZ hown (host := "") (Or.inl (hw _ (List.mem_of_getElem? (i := 18) rfl))) Via.refl eT o_runs0 (g := (mkF m 10 #[.val (.ref a), .val (.ref tt), .val (.int (0 : Int32)), .val (.int (0 : Int32)), .val (.int (0 : Int32))] [(.ref a), (.int (0 : Int32))])) rfl rfl (hb hby d8_10)
  refine own_go st1 ?_
  show own_Go p e below _ (T1.setTop (mkF m 13 #[.val (.ref a), .val (.ref tt), .val (.int (0 : Int32)), .val (.int (0 : Int32)), .val (.int (0 : Int32))] [(.ref rr), (.int (0 : Int32))]))
  refine own_go (own_len X1 hx hZ e1 r_A0 (g := (mkF m 13 #[.val (.ref a), .val (.ref tt), .val (.int (0 : Int32)), .val (.int (0 : Int32)), .val (.int (0 : Int32))] [(.ref rr), (.int (0 : Int32))])) rfl rfl (hb hby d8_13) (3 : Int32) rfl) ?_
  show own_Go p e below _ (T1.setTop (mkF m 14 #[.val (.ref a), .val (.ref tt), .val (.int (0 : Int32)), .val (.int (0 : Int32)), .val (.int (0 : Int32))] [(.int (3 : Int32)), (.int (0 : Int32))]))
  refine own_go (fun _ => XS.icmpNo X1.here hx rfl (hb hby d8_14) rfl (XT.ii_ge_f (by decide))) ?_
  show own_Go p e below _ (T1.setTop (mkF m 17 #[.val (.ref a), .val (.ref tt), .val (.int (0 : Int32)), .val (.int (0 : Int32)), .val (.int (0 : Int32))] []))
  refine own_go (fun _ => XS.aloadN X1.here hx rfl (hb hby d8_17) rfl rfl) ?_
  show own_Go p e below _ (T1.setTop (mkF m 18 #[.val (.ref a), .val (.ref tt), .val (.int (0 : Int32)), .val (.int (0 : Int32)), .val (.int (0 : Int32))] [(.ref tt)]))
  refine own_go (fun _ => XS.iload X1.here hx rfl (hb hby d8_18) rfl) ?_
  show own_Go p e below _ (T1.setTop (mkF m 20 #[.val (.ref a), .val (.ref tt), .val (.int (0 : Int32)), .val (.int (0 : Int32)), .val (.int (0 : Int32))] [(.int (0 : Int32)), (.ref tt)]))
  refine own_go (own_ldJ X1 hx hZ e1 t_A0 (g := (mkF m 20 #[.val (.ref a), .val (.ref tt), .val (.int (0 : Int32)), .val (.int (0 : Int32)), .val (.int (0 : Int32))] [(.int (0 : Int32)), (.ref tt)])) rfl rfl (hb hby d8_20) 0 (by decide) (x := (.long (0 : Int64))) rfl) ?_
  show own_Go p e below _ (T1.setTop (mkF m 21 #[.val (.ref a), .val (.ref tt), .val (.int (0 : Int32)), .val (.int (0 : Int32)), .val (.int (0 : Int32))] [(.long (0 : Int64))]))
  refine own_go (fun _ => XT.lconst X1.here hx rfl (hb hby d8_21)) ?_
  show own_Go p e below _ (T1.setTop (mkF m 22 #[.val (.ref a), .val (.ref tt), .val (.int (0 : Int32)), .val (.int (0 : Int32)), .val (.int (0 : Int32))] [(.long (0 : Int64)), (.long (0 : Int64))]))
  refine own_go (fun _ => XT.lcmp X1.here hx rfl (hb hby d8_22) rfl) ?_
  show own_Go p e below _ (T1.setTop (mkF m 23 #[.val (.ref a), .val (.ref tt), .val (.int (0 : Int32)), .val (.int (0 : Int32)), .val (.int (0 : Int32))] [(.int (XT.cmpL (0 : Int64) (0 : Int64)))]))
  refine own_go (fun _ => XS.ifYes X1.here hx rfl (pc0 := 23) (pc' := 86) rfl (hb hby d8_23) rfl (XT.ll_eq_t (by decide)) (by decide) (by decide)) ?_
  show own_Go p e below _ (T1.setTop (mkF m 86 #[.val (.ref a), .val (.ref tt), .val (.int (0 : Int32)), .val (.int (0 : Int32)), .val (.int (0 : Int32))] []))
  refine own_go (fun _ => XT.iincV X1.here hx rfl (1 : Int32) (hb hby d8_86) rfl rfl (l' := #[.val (.ref a), .val (.ref tt), .val (.int (0 : Int32)), .val (.int (0 : Int32)), .val (.int ((0 : Int32) + (1 : Int32)))]) rfl) ?_
  show own_Go p e below _ (T1.setTop (mkF m 89 #[.val (.ref a), .val (.ref tt), .val (.int (0 : Int32)), .val (.int (0 : Int32)), .val (.int ((0 : Int32) + (1 : Int32)))] []))
  refine own_go (fun _ => XS.goto X1.here hx rfl (pc0 := 89) (pc' := 7) rfl (hb hby d8_89) (by decide) (by decide)) ?_
  show own_Go p e below _ (T1.setTop (mkF m 7 #[.val (.ref a), .val (.ref tt), .val (.int (0 : Int32)), .val (.int (0 : Int32)), .val (.int ((0 : Int32) + (1 : Int32)))] []))
  refine own_go (fun _ => XS.iload X1.here hx rfl (hb hby d8_7) rfl) ?_
  show own_Go p e below _ (T1.setTop (mkF m 9 #[.val (.ref a), .val (.ref tt), .val (.int (0 : Int32)), .val (.int (0 : Int32)), .val (.int ((0 : Int32) + (1 : Int32)))] [(.int ((0 : Int32) + (1 : Int32)))]))
  refine own_go (fun _ => XS.aloadN X1.here hx rfl (hb hby d8_9) rfl rfl) ?_
  show own_Go p e below _ (T1.setTop (mkF m 10 #[.val (.ref a), .val (.ref tt), .val (.int (0 : Int32)), .val (.int (0 : Int32)), .val (.int ((0 : Int32) + (1 : Int32)))] [(.ref a), (.int ((0 : Int32) + (1 : Int32)))]))
  obtain ⟨T2, X2, e2, st2⟩ := getF X1 hx hZ hown (host := "") (Or.inl (hw _ (List.mem_of_getElem? (i := 18) rfl))) Via.refl e1 o_runs0 (g := (mkF m 10 #[.val (.ref a), .val (.ref tt), .val (.int (0 : Int32)), .val (.int (0 : Int32)), .val (.int ((0 : Int32) + (1 : Int32)))] [(.ref a), (.int ((0 : Int32) + (1 : Int32)))])) rfl rfl (hb hby d8_10)
  refine own_go st2 ?_
  show own_Go p e below _ (T2.setTop (mkF m 13 #[.val (.ref a), .val (.ref tt), .val (.int (0 : Int32)), .val (.int (0 : Int32)), .val (.int ((0 : Int32) + (1 : Int32)))] [(.ref rr), (.int ((0 : Int32) + (1 : Int32)))]))
  refine own_go (own_len X2 hx hZ e2 r_A0 (g := (mkF m 13 #[.val (.ref a), .val (.ref tt), .val (.int (0 : Int32)), .val (.int (0 : Int32)), .val (.int ((0 : Int32) + (1 : Int32)))] [(.ref rr), (.int ((0 : Int32) + (1 : Int32)))])) rfl rfl (hb hby d8_13) (3 : Int32) rfl) ?_
  show own_Go p e below _ (T2.setTop (mkF m 14 #[.val (.ref a), .val (.ref tt), .val (.int (0 : Int32)), .val (.int (0 : Int32)), .val (.int ((0 : Int32) + (1 : Int32)))] [(.int (3 : Int32)), (.int ((0 : Int32) + (1 : Int32)))]))
  refine own_go (fun _ => XS.icmpNo X2.here hx rfl (hb hby d8_14) rfl (XT.ii_ge_f (by decide))) ?_
  show own_Go p e below _ (T2.setTop (mkF m 17 #[.val (.ref a), .val (.ref tt), .val (.int (0 : Int32)), .val (.int (0 : Int32)), .val (.int ((0 : Int32) + (1 : Int32)))] []))
  refine own_go (fun _ => XS.aloadN X2.here hx rfl (hb hby d8_17) rfl rfl) ?_
  show own_Go p e below _ (T2.setTop (mkF m 18 #[.val (.ref a), .val (.ref tt), .val (.int (0 : Int32)), .val (.int (0 : Int32)), .val (.int ((0 : Int32) + (1 : Int32)))] [(.ref tt)]))
  refine own_go (fun _ => XS.iload X2.here hx rfl (hb hby d8_18) rfl) ?_
  show own_Go p e below _ (T2.setTop (mkF m 20 #[.val (.ref a), .val (.ref tt), .val (.int (0 : Int32)), .val (.int (0 : Int32)), .val (.int ((0 : Int32) + (1 : Int32)))] [(.int ((0 : Int32) + (1 : Int32))), (.ref tt)]))
  refine own_go (own_ldJ X2 hx hZ e2 t_A0 (g := (mkF m 20 #[.val (.ref a), .val (.ref tt), .val (.int (0 : Int32)), .val (.int (0 : Int32)), .val (.int ((0 : Int32) + (1 : Int32)))] [(.int ((0 : Int32) + (1 : Int32))), (.ref tt)])) rfl rfl (hb hby d8_20) 1 (by decide) (x := (.long y0)) rfl) ?_
  show own_Go p e below _ (T2.setTop (mkF m 21 #[.val (.ref a), .val (.ref tt), .val (.int (0 : Int32)), .val (.int (0 : Int32)), .val (.int ((0 : Int32) + (1 : Int32)))] [(.long y0)]))
  refine own_go (fun _ => XT.lconst X2.here hx rfl (hb hby d8_21)) ?_
  show own_Go p e below _ (T2.setTop (mkF m 22 #[.val (.ref a), .val (.ref tt), .val (.int (0 : Int32)), .val (.int (0 : Int32)), .val (.int ((0 : Int32) + (1 : Int32)))] [(.long (0 : Int64)), (.long y0)]))
  refine own_go (fun _ => XT.lcmp X2.here hx rfl (hb hby d8_22) rfl) ?_
  show own_Go p e below _ (T2.setTop (mkF m 23 #[.val (.ref a), .val (.ref tt), .val (.int (0 : Int32)), .val (.int (0 : Int32)), .val (.int ((0 : Int32) + (1 : Int32)))] [(.int (XT.cmpL y0 (0 : Int64)))]))
  by_cases hz0 : y0 = (0 : Int64)
  · skip
    refine own_go (fun _ => XS.ifYes X2.here hx rfl (pc0 := 23) (pc' := 86) rfl (hb hby d8_23) rfl (XT.ll_eq_t hz0) (by decide) (by decide)) ?_
    show own_Go p e below _ (T2.setTop (mkF m 86 #[.val (.ref a), .val (.ref tt), .val (.int (0 : Int32)), .val (.int (0 : Int32)), .val (.int ((0 : Int32) + (1 : Int32)))] []))
    refine own_go (fun _ => XT.iincV X2.here hx rfl (1 : Int32) (hb hby d8_86) rfl rfl (l' := #[.val (.ref a), .val (.ref tt), .val (.int (0 : Int32)), .val (.int (0 : Int32)), .val (.int (((0 : Int32) + (1 : Int32)) + (1 : Int32)))]) rfl) ?_
    show own_Go p e below _ (T2.setTop (mkF m 89 #[.val (.ref a), .val (.ref tt), .val (.int (0 : Int32)), .val (.int (0 : Int32)), .val (.int (((0 : Int32) + (1 : Int32)) + (1 : Int32)))] []))
    refine own_go (fun _ => XS.goto X2.here hx rfl (pc0 := 89) (pc' := 7) rfl (hb hby d8_89) (by decide) (by decide)) ?_
    show own_Go p e below _ (T2.setTop (mkF m 7 #[.val (.ref a), .val (.ref tt), .val (.int (0 : Int32)), .val (.int (0 : Int32)), .val (.int (((0 : Int32) + (1 : Int32)) + (1 : Int32)))] []))
    refine own_go (fun _ => XS.iload X2.here hx rfl (hb hby d8_7) rfl) ?_
    show own_Go p e below _ (T2.setTop (mkF m 9 #[.val (.ref a), .val (.ref tt), .val (.int (0 : Int32)), .val (.int (0 : Int32)), .val (.int (((0 : Int32) + (1 : Int32)) + (1 : Int32)))] [(.int (((0 : Int32) + (1 : Int32)) + (1 : Int32)))]))
    refine own_go (fun _ => XS.aloadN X2.here hx rfl (hb hby d8_9) rfl rfl) ?_
    show own_Go p e below _ (T2.setTop (mkF m 10 #[.val (.ref a), .val (.ref tt), .val (.int (0 : Int32)), .val (.int (0 : Int32)), .val (.int (((0 : Int32) + (1 : Int32)) + (1 : Int32)))] [(.ref a), (.int (((0 : Int32) + (1 : Int32)) + (1 : Int32)))]))
    obtain ⟨T3, X3, e3, st3⟩ := getF X2 hx hZ hown (host := "") (Or.inl (hw _ (List.mem_of_getElem? (i := 18) rfl))) Via.refl e2 o_runs0 (g := (mkF m 10 #[.val (.ref a), .val (.ref tt), .val (.int (0 : Int32)), .val (.int (0 : Int32)), .val (.int (((0 : Int32) + (1 : Int32)) + (1 : Int32)))] [(.ref a), (.int (((0 : Int32) + (1 : Int32)) + (1 : Int32)))])) rfl rfl (hb hby d8_10)
    refine own_go st3 ?_
    show own_Go p e below _ (T3.setTop (mkF m 13 #[.val (.ref a), .val (.ref tt), .val (.int (0 : Int32)), .val (.int (0 : Int32)), .val (.int (((0 : Int32) + (1 : Int32)) + (1 : Int32)))] [(.ref rr), (.int (((0 : Int32) + (1 : Int32)) + (1 : Int32)))]))
    refine own_go (own_len X3 hx hZ e3 r_A0 (g := (mkF m 13 #[.val (.ref a), .val (.ref tt), .val (.int (0 : Int32)), .val (.int (0 : Int32)), .val (.int (((0 : Int32) + (1 : Int32)) + (1 : Int32)))] [(.ref rr), (.int (((0 : Int32) + (1 : Int32)) + (1 : Int32)))])) rfl rfl (hb hby d8_13) (3 : Int32) rfl) ?_
    show own_Go p e below _ (T3.setTop (mkF m 14 #[.val (.ref a), .val (.ref tt), .val (.int (0 : Int32)), .val (.int (0 : Int32)), .val (.int (((0 : Int32) + (1 : Int32)) + (1 : Int32)))] [(.int (3 : Int32)), (.int (((0 : Int32) + (1 : Int32)) + (1 : Int32)))]))
    refine own_go (fun _ => XS.icmpNo X3.here hx rfl (hb hby d8_14) rfl (XT.ii_ge_f (by decide))) ?_
    show own_Go p e below _ (T3.setTop (mkF m 17 #[.val (.ref a), .val (.ref tt), .val (.int (0 : Int32)), .val (.int (0 : Int32)), .val (.int (((0 : Int32) + (1 : Int32)) + (1 : Int32)))] []))
    refine own_go (fun _ => XS.aloadN X3.here hx rfl (hb hby d8_17) rfl rfl) ?_
    show own_Go p e below _ (T3.setTop (mkF m 18 #[.val (.ref a), .val (.ref tt), .val (.int (0 : Int32)), .val (.int (0 : Int32)), .val (.int (((0 : Int32) + (1 : Int32)) + (1 : Int32)))] [(.ref tt)]))
    refine own_go (fun _ => XS.iload X3.here hx rfl (hb hby d8_18) rfl) ?_
    show own_Go p e below _ (T3.setTop (mkF m 20 #[.val (.ref a), .val (.ref tt), .val (.int (0 : Int32)), .val (.int (0 : Int32)), .val (.int (((0 : Int32) + (1 : Int32)) + (1 : Int32)))] [(.int (((0 : Int32) + (1 : Int32)) + (1 : Int32))), (.ref tt)]))
    refine own_go (own_ldJ X3 hx hZ e3 t_A0 (g := (mkF m 20 #[.val (.ref a), .val (.ref tt), .val (.int (0 : Int32)), .val (.int (0 : Int32)), .val (.int (((0 : Int32) + (1 : Int32)) + (1 : Int32)))] [(.int (((0 : Int32) + (1 : Int32)) + (1 : Int32))), (.ref tt)])) rfl rfl (hb hby d8_20) 2 (by decide) (x := (.long y1)) rfl) ?_
    show own_Go p e below _ (T3.setTop (mkF m 21 #[.val (.ref a), .val (.ref tt), .val (.int (0 : Int32)), .val (.int (0 : Int32)), .val (.int (((0 : Int32) + (1 : Int32)) + (1 : Int32)))] [(.long y1)]))
    refine own_go (fun _ => XT.lconst X3.here hx rfl (hb hby d8_21)) ?_
    show own_Go p e below _ (T3.setTop (mkF m 22 #[.val (.ref a), .val (.ref tt), .val (.int (0 : Int32)), .val (.int (0 : Int32)), .val (.int (((0 : Int32) + (1 : Int32)) + (1 : Int32)))] [(.long (0 : Int64)), (.long y1)]))
    refine own_go (fun _ => XT.lcmp X3.here hx rfl (hb hby d8_22) rfl) ?_
    show own_Go p e below _ (T3.setTop (mkF m 23 #[.val (.ref a), .val (.ref tt), .val (.int (0 : Int32)), .val (.int (0 : Int32)), .val (.int (((0 : Int32) + (1 : Int32)) + (1 : Int32)))] [(.int (XT.cmpL y1 (0 : Int64)))]))
    by_cases hz1 : y1 = (0 : Int64)
    · skip
      refine own_go (fun _ => XS.ifYes X3.here hx rfl (pc0 := 23) (pc' := 86) rfl (hb hby d8_23) rfl (XT.ll_eq_t hz1) (by decide) (by decide)) ?_
      show own_Go p e below _ (T3.setTop (mkF m 86 #[.val (.ref a), .val (.ref tt), .val (.int (0 : Int32)), .val (.int (0 : Int32)), .val (.int (((0 : Int32) + (1 : Int32)) + (1 : Int32)))] []))
      refine own_go (fun _ => XT.iincV X3.here hx rfl (1 : Int32) (hb hby d8_86) rfl rfl (l' := #[.val (.ref a), .val (.ref tt), .val (.int (0 : Int32)), .val (.int (0 : Int32)), .val (.int ((((0 : Int32) + (1 : Int32)) + (1 : Int32)) + (1 : Int32)))]) rfl) ?_
      show own_Go p e below _ (T3.setTop (mkF m 89 #[.val (.ref a), .val (.ref tt), .val (.int (0 : Int32)), .val (.int (0 : Int32)), .val (.int ((((0 : Int32) + (1 : Int32)) + (1 : Int32)) + (1 : Int32)))] []))
      refine own_go (fun _ => XS.goto X3.here hx rfl (pc0 := 89) (pc' := 7) rfl (hb hby d8_89) (by decide) (by decide)) ?_
      show own_Go p e below _ (T3.setTop (mkF m 7 #[.val (.ref a), .val (.ref tt), .val (.int (0 : Int32)), .val (.int (0 : Int32)), .val (.int ((((0 : Int32) + (1 : Int32)) + (1 : Int32)) + (1 : Int32)))] []))
      refine own_go (fun _ => XS.iload X3.here hx rfl (hb hby d8_7) rfl) ?_
      show own_Go p e below _ (T3.setTop (mkF m 9 #[.val (.ref a), .val (.ref tt), .val (.int (0 : Int32)), .val (.int (0 : Int32)), .val (.int ((((0 : Int32) + (1 : Int32)) + (1 : Int32)) + (1 : Int32)))] [(.int ((((0 : Int32) + (1 : Int32)) + (1 : Int32)) + (1 : Int32)))]))
      refine own_go (fun _ => XS.aloadN X3.here hx rfl (hb hby d8_9) rfl rfl) ?_
      show own_Go p e below _ (T3.setTop (mkF m 10 #[.val (.ref a), .val (.ref tt), .val (.int (0 : Int32)), .val (.int (0 : Int32)), .val (.int ((((0 : Int32) + (1 : Int32)) + (1 : Int32)) + (1 : Int32)))] [(.ref a), (.int ((((0 : Int32) + (1 : Int32)) + (1 : Int32)) + (1 : Int32)))]))
      obtain ⟨T4, X4, e4, st4⟩ := getF X3 hx hZ hown (host := "") (Or.inl (hw _ (List.mem_of_getElem? (i := 18) rfl))) Via.refl e3 o_runs0 (g := (mkF m 10 #[.val (.ref a), .val (.ref tt), .val (.int (0 : Int32)), .val (.int (0 : Int32)), .val (.int ((((0 : Int32) + (1 : Int32)) + (1 : Int32)) + (1 : Int32)))] [(.ref a), (.int ((((0 : Int32) + (1 : Int32)) + (1 : Int32)) + (1 : Int32)))])) rfl rfl (hb hby d8_10)
      refine own_go st4 ?_
      show own_Go p e below _ (T4.setTop (mkF m 13 #[.val (.ref a), .val (.ref tt), .val (.int (0 : Int32)), .val (.int (0 : Int32)), .val (.int ((((0 : Int32) + (1 : Int32)) + (1 : Int32)) + (1 : Int32)))] [(.ref rr), (.int ((((0 : Int32) + (1 : Int32)) + (1 : Int32)) + (1 : Int32)))]))
      refine own_go (own_len X4 hx hZ e4 r_A0 (g := (mkF m 13 #[.val (.ref a), .val (.ref tt), .val (.int (0 : Int32)), .val (.int (0 : Int32)), .val (.int ((((0 : Int32) + (1 : Int32)) + (1 : Int32)) + (1 : Int32)))] [(.ref rr), (.int ((((0 : Int32) + (1 : Int32)) + (1 : Int32)) + (1 : Int32)))])) rfl rfl (hb hby d8_13) (3 : Int32) rfl) ?_
      show own_Go p e below _ (T4.setTop (mkF m 14 #[.val (.ref a), .val (.ref tt), .val (.int (0 : Int32)), .val (.int (0 : Int32)), .val (.int ((((0 : Int32) + (1 : Int32)) + (1 : Int32)) + (1 : Int32)))] [(.int (3 : Int32)), (.int ((((0 : Int32) + (1 : Int32)) + (1 : Int32)) + (1 : Int32)))]))
      refine own_go (fun _ => XS.icmpYes X4.here hx rfl (pc0 := 14) (pc' := 92) rfl (hb hby d8_14) rfl (XT.ii_ge_t (by decide)) (by decide) (by decide)) ?_
      show own_Go p e below _ (T4.setTop (mkF m 92 #[.val (.ref a), .val (.ref tt), .val (.int (0 : Int32)), .val (.int (0 : Int32)), .val (.int ((((0 : Int32) + (1 : Int32)) + (1 : Int32)) + (1 : Int32)))] []))
      refine own_go (fun _ => XS.iloadN X4.here hx rfl (hb hby d8_92) rfl) ?_
      show own_Go p e below _ (T4.setTop (mkF m 93 #[.val (.ref a), .val (.ref tt), .val (.int (0 : Int32)), .val (.int (0 : Int32)), .val (.int ((((0 : Int32) + (1 : Int32)) + (1 : Int32)) + (1 : Int32)))] [(.int (0 : Int32))]))
      refine own_go (fun _ => XS.ifYes X4.here hx rfl (pc0 := 93) (pc' := 101) rfl (hb hby d8_93) rfl (XT.i0_eq_t (by decide)) (by decide) (by decide)) ?_
      show own_Go p e below _ (T4.setTop (mkF m 101 #[.val (.ref a), .val (.ref tt), .val (.int (0 : Int32)), .val (.int (0 : Int32)), .val (.int ((((0 : Int32) + (1 : Int32)) + (1 : Int32)) + (1 : Int32)))] []))
      refine own_go (fun _ => XS.iloadN X4.here hx rfl (hb hby d8_101) rfl) ?_
      show own_Go p e below _ (T4.setTop (mkF m 102 #[.val (.ref a), .val (.ref tt), .val (.int (0 : Int32)), .val (.int (0 : Int32)), .val (.int ((((0 : Int32) + (1 : Int32)) + (1 : Int32)) + (1 : Int32)))] [(.int (0 : Int32))]))
      refine own_go (fun _ => XS.ifYes X4.here hx rfl (pc0 := 102) (pc' := 141) rfl (hb hby d8_102) rfl (XT.i0_eq_t (by decide)) (by decide) (by decide)) ?_
      show own_Go p e below _ (T4.setTop (mkF m 141 #[.val (.ref a), .val (.ref tt), .val (.int (0 : Int32)), .val (.int (0 : Int32)), .val (.int ((((0 : Int32) + (1 : Int32)) + (1 : Int32)) + (1 : Int32)))] []))
      have r_Az : own_AV Z h0 rr .long [.long r0, .long y0, .long y1] := by
        have q : own_AV Z h0 rr .long [.long r0, .long 0, .long 0] := r_A0
        rw [hz0]; rw [hz1]; exact q
      exact own_vret X4 hx hlk hret (hb hby d8_141) (by decide) (by decide) (by rw [e4]; exact ⟨rfl, N0, K0, _, _, _, 0, ⟨⟨o_E0, r_E0, r_Az, m_A0, h_A0⟩, ⟨o_self0, o_runs0, o_marks0, o_marked0, o_heard0, o_preceded0, o_chosen0⟩, ⟨ne_a_rr, ne_a_mm, ne_a_hh, ne_rr_mm, ne_rr_hh, ne_mm_hh⟩⟩, by decide, ⟨_, rfl, (own_mark_ne r0 0 0)⟩, rfl⟩)
    · skip
      refine own_go (fun _ => XS.ifNo X3.here hx rfl (hb hby d8_23) rfl (XT.ll_eq_f hz1)) ?_
      show own_Go p e below _ (T3.setTop (mkF m 26 #[.val (.ref a), .val (.ref tt), .val (.int (0 : Int32)), .val (.int (0 : Int32)), .val (.int (((0 : Int32) + (1 : Int32)) + (1 : Int32)))] []))
      refine own_go (fun _ => XS.aloadN X3.here hx rfl (hb hby d8_26) rfl rfl) ?_
      show own_Go p e below _ (T3.setTop (mkF m 27 #[.val (.ref a), .val (.ref tt), .val (.int (0 : Int32)), .val (.int (0 : Int32)), .val (.int (((0 : Int32) + (1 : Int32)) + (1 : Int32)))] [(.ref a)]))
      obtain ⟨T5, X5, e5, st5⟩ := getF X3 hx hZ hown (host := "") (Or.inl (hw _ (List.mem_of_getElem? (i := 18) rfl))) Via.refl e3 o_runs0 (g := (mkF m 27 #[.val (.ref a), .val (.ref tt), .val (.int (0 : Int32)), .val (.int (0 : Int32)), .val (.int (((0 : Int32) + (1 : Int32)) + (1 : Int32)))] [(.ref a)])) rfl rfl (hb hby d8_27)
      refine own_go st5 ?_
      show own_Go p e below _ (T5.setTop (mkF m 30 #[.val (.ref a), .val (.ref tt), .val (.int (0 : Int32)), .val (.int (0 : Int32)), .val (.int (((0 : Int32) + (1 : Int32)) + (1 : Int32)))] [(.ref rr)]))
      refine own_go (fun _ => XS.iload X5.here hx rfl (hb hby d8_30) rfl) ?_
      show own_Go p e below _ (T5.setTop (mkF m 32 #[.val (.ref a), .val (.ref tt), .val (.int (0 : Int32)), .val (.int (0 : Int32)), .val (.int (((0 : Int32) + (1 : Int32)) + (1 : Int32)))] [(.int (((0 : Int32) + (1 : Int32)) + (1 : Int32))), (.ref rr)]))
      refine own_go (own_ldJ X5 hx hZ e5 r_A0 (g := (mkF m 32 #[.val (.ref a), .val (.ref tt), .val (.int (0 : Int32)), .val (.int (0 : Int32)), .val (.int (((0 : Int32) + (1 : Int32)) + (1 : Int32)))] [(.int (((0 : Int32) + (1 : Int32)) + (1 : Int32))), (.ref rr)])) rfl rfl (hb hby d8_32) 2 (by decide) (x := (.long (0 : Int64))) rfl) ?_
      show own_Go p e below _ (T5.setTop (mkF m 33 #[.val (.ref a), .val (.ref tt), .val (.int (0 : Int32)), .val (.int (0 : Int32)), .val (.int (((0 : Int32) + (1 : Int32)) + (1 : Int32)))] [(.long (0 : Int64))]))
      refine own_go (fun _ => XT.lconst X5.here hx rfl (hb hby d8_33)) ?_
      show own_Go p e below _ (T5.setTop (mkF m 34 #[.val (.ref a), .val (.ref tt), .val (.int (0 : Int32)), .val (.int (0 : Int32)), .val (.int (((0 : Int32) + (1 : Int32)) + (1 : Int32)))] [(.long (0 : Int64)), (.long (0 : Int64))]))
      refine own_go (fun _ => XT.lcmp X5.here hx rfl (hb hby d8_34) rfl) ?_
      show own_Go p e below _ (T5.setTop (mkF m 35 #[.val (.ref a), .val (.ref tt), .val (.int (0 : Int32)), .val (.int (0 : Int32)), .val (.int (((0 : Int32) + (1 : Int32)) + (1 : Int32)))] [(.int (XT.cmpL (0 : Int64) (0 : Int64)))]))
      refine own_go (fun _ => XS.ifYes X5.here hx rfl (pc0 := 35) (pc' := 53) rfl (hb hby d8_35) rfl (XT.ll_eq_t (by decide)) (by decide) (by decide)) ?_
      show own_Go p e below _ (T5.setTop (mkF m 53 #[.val (.ref a), .val (.ref tt), .val (.int (0 : Int32)), .val (.int (0 : Int32)), .val (.int (((0 : Int32) + (1 : Int32)) + (1 : Int32)))] []))
      refine own_go (fun _ => XS.iloadN X5.here hx rfl (hb hby d8_53) rfl) ?_
      show own_Go p e below _ (T5.setTop (mkF m 54 #[.val (.ref a), .val (.ref tt), .val (.int (0 : Int32)), .val (.int (0 : Int32)), .val (.int (((0 : Int32) + (1 : Int32)) + (1 : Int32)))] [(.int (0 : Int32))]))
      refine own_go (fun _ => XS.aloadN X5.here hx rfl (hb hby d8_54) rfl rfl) ?_
      show own_Go p e below _ (T5.setTop (mkF m 55 #[.val (.ref a), .val (.ref tt), .val (.int (0 : Int32)), .val (.int (0 : Int32)), .val (.int (((0 : Int32) + (1 : Int32)) + (1 : Int32)))] [(.ref a), (.int (0 : Int32))]))
      obtain ⟨T6, X6, e6, st6⟩ := getF X5 hx hZ hown (host := "") (Or.inl (hw _ (List.mem_of_getElem? (i := 18) rfl))) Via.refl e5 o_runs0 (g := (mkF m 55 #[.val (.ref a), .val (.ref tt), .val (.int (0 : Int32)), .val (.int (0 : Int32)), .val (.int (((0 : Int32) + (1 : Int32)) + (1 : Int32)))] [(.ref a), (.int (0 : Int32))])) rfl rfl (hb hby d8_55)
      refine own_go st6 ?_
      show own_Go p e below _ (T6.setTop (mkF m 58 #[.val (.ref a), .val (.ref tt), .val (.int (0 : Int32)), .val (.int (0 : Int32)), .val (.int (((0 : Int32) + (1 : Int32)) + (1 : Int32)))] [(.ref rr), (.int (0 : Int32))]))
      refine own_go (fun _ => XS.iload X6.here hx rfl (hb hby d8_58) rfl) ?_
      show own_Go p e below _ (T6.setTop (mkF m 60 #[.val (.ref a), .val (.ref tt), .val (.int (0 : Int32)), .val (.int (0 : Int32)), .val (.int (((0 : Int32) + (1 : Int32)) + (1 : Int32)))] [(.int (((0 : Int32) + (1 : Int32)) + (1 : Int32))), (.ref rr), (.int (0 : Int32))]))
      refine own_go (own_ldJ X6 hx hZ e6 r_A0 (g := (mkF m 60 #[.val (.ref a), .val (.ref tt), .val (.int (0 : Int32)), .val (.int (0 : Int32)), .val (.int (((0 : Int32) + (1 : Int32)) + (1 : Int32)))] [(.int (((0 : Int32) + (1 : Int32)) + (1 : Int32))), (.ref rr), (.int (0 : Int32))])) rfl rfl (hb hby d8_60) 2 (by decide) (x := (.long (0 : Int64))) rfl) ?_
      show own_Go p e below _ (T6.setTop (mkF m 61 #[.val (.ref a), .val (.ref tt), .val (.int (0 : Int32)), .val (.int (0 : Int32)), .val (.int (((0 : Int32) + (1 : Int32)) + (1 : Int32)))] [(.long (0 : Int64)), (.int (0 : Int32))]))
      refine own_go (fun _ => XT.lconst X6.here hx rfl (hb hby d8_61)) ?_
      show own_Go p e below _ (T6.setTop (mkF m 62 #[.val (.ref a), .val (.ref tt), .val (.int (0 : Int32)), .val (.int (0 : Int32)), .val (.int (((0 : Int32) + (1 : Int32)) + (1 : Int32)))] [(.long (0 : Int64)), (.long (0 : Int64)), (.int (0 : Int32))]))
      refine own_go (fun _ => XT.lcmp X6.here hx rfl (hb hby d8_62) rfl) ?_
      show own_Go p e below _ (T6.setTop (mkF m 63 #[.val (.ref a), .val (.ref tt), .val (.int (0 : Int32)), .val (.int (0 : Int32)), .val (.int (((0 : Int32) + (1 : Int32)) + (1 : Int32)))] [(.int (XT.cmpL (0 : Int64) (0 : Int64))), (.int (0 : Int32))]))
      refine own_go (fun _ => XS.ifYes X6.here hx rfl (pc0 := 63) (pc' := 70) rfl (hb hby d8_63) rfl (XT.ll_eq_t (by decide)) (by decide) (by decide)) ?_
      show own_Go p e below _ (T6.setTop (mkF m 70 #[.val (.ref a), .val (.ref tt), .val (.int (0 : Int32)), .val (.int (0 : Int32)), .val (.int (((0 : Int32) + (1 : Int32)) + (1 : Int32)))] [(.int (0 : Int32))]))
      refine own_go (fun _ => XS.iconst X6.here hx rfl (hb hby d8_70)) ?_
      show own_Go p e below _ (T6.setTop (mkF m 71 #[.val (.ref a), .val (.ref tt), .val (.int (0 : Int32)), .val (.int (0 : Int32)), .val (.int (((0 : Int32) + (1 : Int32)) + (1 : Int32)))] [(.int (0 : Int32)), (.int (0 : Int32))]))
      refine own_go (fun _ => XT.ior X6.here hx rfl (hb hby d8_71) rfl) ?_
      show own_Go p e below _ (T6.setTop (mkF m 72 #[.val (.ref a), .val (.ref tt), .val (.int (0 : Int32)), .val (.int (0 : Int32)), .val (.int (((0 : Int32) + (1 : Int32)) + (1 : Int32)))] [(.int ((0 : Int32) ||| (0 : Int32)))]))
      refine own_go (fun _ => XS.istoreN X6.here hx rfl (hb hby d8_72) rfl (l' := #[.val (.ref a), .val (.ref tt), .val (.int (0 : Int32)), .val (.int ((0 : Int32) ||| (0 : Int32))), .val (.int (((0 : Int32) + (1 : Int32)) + (1 : Int32)))]) rfl) ?_
      show own_Go p e below _ (T6.setTop (mkF m 73 #[.val (.ref a), .val (.ref tt), .val (.int (0 : Int32)), .val (.int ((0 : Int32) ||| (0 : Int32))), .val (.int (((0 : Int32) + (1 : Int32)) + (1 : Int32)))] []))
      refine own_go (fun _ => XS.aloadN X6.here hx rfl (hb hby d8_73) rfl rfl) ?_
      show own_Go p e below _ (T6.setTop (mkF m 74 #[.val (.ref a), .val (.ref tt), .val (.int (0 : Int32)), .val (.int ((0 : Int32) ||| (0 : Int32))), .val (.int (((0 : Int32) + (1 : Int32)) + (1 : Int32)))] [(.ref a)]))
      obtain ⟨T7, X7, e7, st7⟩ := getF X6 hx hZ hown (host := "") (Or.inl (hw _ (List.mem_of_getElem? (i := 18) rfl))) Via.refl e6 o_runs0 (g := (mkF m 74 #[.val (.ref a), .val (.ref tt), .val (.int (0 : Int32)), .val (.int ((0 : Int32) ||| (0 : Int32))), .val (.int (((0 : Int32) + (1 : Int32)) + (1 : Int32)))] [(.ref a)])) rfl rfl (hb hby d8_74)
      refine own_go st7 ?_
      show own_Go p e below _ (T7.setTop (mkF m 77 #[.val (.ref a), .val (.ref tt), .val (.int (0 : Int32)), .val (.int ((0 : Int32) ||| (0 : Int32))), .val (.int (((0 : Int32) + (1 : Int32)) + (1 : Int32)))] [(.ref rr)]))
      refine own_go (fun _ => XS.iload X7.here hx rfl (hb hby d8_77) rfl) ?_
      show own_Go p e below _ (T7.setTop (mkF m 79 #[.val (.ref a), .val (.ref tt), .val (.int (0 : Int32)), .val (.int ((0 : Int32) ||| (0 : Int32))), .val (.int (((0 : Int32) + (1 : Int32)) + (1 : Int32)))] [(.int (((0 : Int32) + (1 : Int32)) + (1 : Int32))), (.ref rr)]))
      refine own_go (fun _ => XS.aloadN X7.here hx rfl (hb hby d8_79) rfl rfl) ?_
      show own_Go p e below _ (T7.setTop (mkF m 80 #[.val (.ref a), .val (.ref tt), .val (.int (0 : Int32)), .val (.int ((0 : Int32) ||| (0 : Int32))), .val (.int (((0 : Int32) + (1 : Int32)) + (1 : Int32)))] [(.ref tt), (.int (((0 : Int32) + (1 : Int32)) + (1 : Int32))), (.ref rr)]))
      refine own_go (fun _ => XS.iload X7.here hx rfl (hb hby d8_80) rfl) ?_
      show own_Go p e below _ (T7.setTop (mkF m 82 #[.val (.ref a), .val (.ref tt), .val (.int (0 : Int32)), .val (.int ((0 : Int32) ||| (0 : Int32))), .val (.int (((0 : Int32) + (1 : Int32)) + (1 : Int32)))] [(.int (((0 : Int32) + (1 : Int32)) + (1 : Int32))), (.ref tt), (.int (((0 : Int32) + (1 : Int32)) + (1 : Int32))), (.ref rr)]))
      refine own_go (own_ldJ X7 hx hZ e7 t_A0 (g := (mkF m 82 #[.val (.ref a), .val (.ref tt), .val (.int (0 : Int32)), .val (.int ((0 : Int32) ||| (0 : Int32))), .val (.int (((0 : Int32) + (1 : Int32)) + (1 : Int32)))] [(.int (((0 : Int32) + (1 : Int32)) + (1 : Int32))), (.ref tt), (.int (((0 : Int32) + (1 : Int32)) + (1 : Int32))), (.ref rr)])) rfl rfl (hb hby d8_82) 2 (by decide) (x := (.long y1)) rfl) ?_
      show own_Go p e below _ (T7.setTop (mkF m 83 #[.val (.ref a), .val (.ref tt), .val (.int (0 : Int32)), .val (.int ((0 : Int32) ||| (0 : Int32))), .val (.int (((0 : Int32) + (1 : Int32)) + (1 : Int32)))] [(.long y1), (.int (((0 : Int32) + (1 : Int32)) + (1 : Int32))), (.ref rr)]))
      obtain ⟨T8, h8, X8, e8, W8, A8, st8⟩ := own_stJ X7 hx hZ e7 r_A0 (g := (mkF m 83 #[.val (.ref a), .val (.ref tt), .val (.int (0 : Int32)), .val (.int ((0 : Int32) ||| (0 : Int32))), .val (.int (((0 : Int32) + (1 : Int32)) + (1 : Int32)))] [(.long y1), (.int (((0 : Int32) + (1 : Int32)) + (1 : Int32))), (.ref rr)])) rfl rfl (hb hby d8_83) 2 (by decide) (by simp)
      have N8 := Fr.snoc X8 N0 gr
      have o_E_8 := o_E0.wr W8
      have r_E_8 := r_E0.wr W8
      have o_self_8 := o_self0.other W8 (Or.inl ne_a_rr)
      have o_runs_8 := o_runs0.other W8 (Or.inl ne_a_rr)
      have o_marks_8 := o_marks0.other W8 (Or.inl ne_a_rr)
      have o_marked_8 := o_marked0.other W8 (Or.inl ne_a_rr)
      have o_heard_8 := o_heard0.other W8 (Or.inl ne_a_rr)
      have o_preceded_8 := o_preceded0.other W8 (Or.inl ne_a_rr)
      have o_chosen_8 := o_chosen0.other W8 (Or.inl ne_a_rr)
      have m_A_8 := m_A0.other W8 (Ne.symm ne_rr_mm)
      have h_A_8 := h_A0.other W8 (Ne.symm ne_rr_hh)
      have t_A_8 := t_A0.other W8 ne_tt_rr
      have K8 := K0.wr W8 (Or.inl (List.mem_of_getElem? (i := 1) rfl))
      refine own_go st8 ?_
      show own_Go p e below _ (T8.setTop (mkF m 84 #[.val (.ref a), .val (.ref tt), .val (.int (0 : Int32)), .val (.int ((0 : Int32) ||| (0 : Int32))), .val (.int (((0 : Int32) + (1 : Int32)) + (1 : Int32)))] []))
      refine own_go (fun _ => XS.iconst X8.here hx rfl (hb hby d8_84)) ?_
      show own_Go p e below _ (T8.setTop (mkF m 85 #[.val (.ref a), .val (.ref tt), .val (.int (0 : Int32)), .val (.int ((0 : Int32) ||| (0 : Int32))), .val (.int (((0 : Int32) + (1 : Int32)) + (1 : Int32)))] [(.int (1 : Int32))]))
      refine own_go (fun _ => XS.istoreN X8.here hx rfl (hb hby d8_85) rfl (l' := #[.val (.ref a), .val (.ref tt), .val (.int (1 : Int32)), .val (.int ((0 : Int32) ||| (0 : Int32))), .val (.int (((0 : Int32) + (1 : Int32)) + (1 : Int32)))]) rfl) ?_
      show own_Go p e below _ (T8.setTop (mkF m 86 #[.val (.ref a), .val (.ref tt), .val (.int (1 : Int32)), .val (.int ((0 : Int32) ||| (0 : Int32))), .val (.int (((0 : Int32) + (1 : Int32)) + (1 : Int32)))] []))
      refine own_go (fun _ => XT.iincV X8.here hx rfl (1 : Int32) (hb hby d8_86) rfl rfl (l' := #[.val (.ref a), .val (.ref tt), .val (.int (1 : Int32)), .val (.int ((0 : Int32) ||| (0 : Int32))), .val (.int ((((0 : Int32) + (1 : Int32)) + (1 : Int32)) + (1 : Int32)))]) rfl) ?_
      show own_Go p e below _ (T8.setTop (mkF m 89 #[.val (.ref a), .val (.ref tt), .val (.int (1 : Int32)), .val (.int ((0 : Int32) ||| (0 : Int32))), .val (.int ((((0 : Int32) + (1 : Int32)) + (1 : Int32)) + (1 : Int32)))] []))
      refine own_go (fun _ => XS.goto X8.here hx rfl (pc0 := 89) (pc' := 7) rfl (hb hby d8_89) (by decide) (by decide)) ?_
      show own_Go p e below _ (T8.setTop (mkF m 7 #[.val (.ref a), .val (.ref tt), .val (.int (1 : Int32)), .val (.int ((0 : Int32) ||| (0 : Int32))), .val (.int ((((0 : Int32) + (1 : Int32)) + (1 : Int32)) + (1 : Int32)))] []))
      refine own_go (fun _ => XS.iload X8.here hx rfl (hb hby d8_7) rfl) ?_
      show own_Go p e below _ (T8.setTop (mkF m 9 #[.val (.ref a), .val (.ref tt), .val (.int (1 : Int32)), .val (.int ((0 : Int32) ||| (0 : Int32))), .val (.int ((((0 : Int32) + (1 : Int32)) + (1 : Int32)) + (1 : Int32)))] [(.int ((((0 : Int32) + (1 : Int32)) + (1 : Int32)) + (1 : Int32)))]))
      refine own_go (fun _ => XS.aloadN X8.here hx rfl (hb hby d8_9) rfl rfl) ?_
      show own_Go p e below _ (T8.setTop (mkF m 10 #[.val (.ref a), .val (.ref tt), .val (.int (1 : Int32)), .val (.int ((0 : Int32) ||| (0 : Int32))), .val (.int ((((0 : Int32) + (1 : Int32)) + (1 : Int32)) + (1 : Int32)))] [(.ref a), (.int ((((0 : Int32) + (1 : Int32)) + (1 : Int32)) + (1 : Int32)))]))
      obtain ⟨T9, X9, e9, st9⟩ := getF X8 hx hZ hown (host := "") (Or.inl (hw _ (List.mem_of_getElem? (i := 18) rfl))) Via.refl e8 o_runs_8 (g := (mkF m 10 #[.val (.ref a), .val (.ref tt), .val (.int (1 : Int32)), .val (.int ((0 : Int32) ||| (0 : Int32))), .val (.int ((((0 : Int32) + (1 : Int32)) + (1 : Int32)) + (1 : Int32)))] [(.ref a), (.int ((((0 : Int32) + (1 : Int32)) + (1 : Int32)) + (1 : Int32)))])) rfl rfl (hb hby d8_10)
      refine own_go st9 ?_
      show own_Go p e below _ (T9.setTop (mkF m 13 #[.val (.ref a), .val (.ref tt), .val (.int (1 : Int32)), .val (.int ((0 : Int32) ||| (0 : Int32))), .val (.int ((((0 : Int32) + (1 : Int32)) + (1 : Int32)) + (1 : Int32)))] [(.ref rr), (.int ((((0 : Int32) + (1 : Int32)) + (1 : Int32)) + (1 : Int32)))]))
      refine own_go (own_len X9 hx hZ e9 A8 (g := (mkF m 13 #[.val (.ref a), .val (.ref tt), .val (.int (1 : Int32)), .val (.int ((0 : Int32) ||| (0 : Int32))), .val (.int ((((0 : Int32) + (1 : Int32)) + (1 : Int32)) + (1 : Int32)))] [(.ref rr), (.int ((((0 : Int32) + (1 : Int32)) + (1 : Int32)) + (1 : Int32)))])) rfl rfl (hb hby d8_13) (3 : Int32) rfl) ?_
      show own_Go p e below _ (T9.setTop (mkF m 14 #[.val (.ref a), .val (.ref tt), .val (.int (1 : Int32)), .val (.int ((0 : Int32) ||| (0 : Int32))), .val (.int ((((0 : Int32) + (1 : Int32)) + (1 : Int32)) + (1 : Int32)))] [(.int (3 : Int32)), (.int ((((0 : Int32) + (1 : Int32)) + (1 : Int32)) + (1 : Int32)))]))
      refine own_go (fun _ => XS.icmpYes X9.here hx rfl (pc0 := 14) (pc' := 92) rfl (hb hby d8_14) rfl (XT.ii_ge_t (by decide)) (by decide) (by decide)) ?_
      show own_Go p e below _ (T9.setTop (mkF m 92 #[.val (.ref a), .val (.ref tt), .val (.int (1 : Int32)), .val (.int ((0 : Int32) ||| (0 : Int32))), .val (.int ((((0 : Int32) + (1 : Int32)) + (1 : Int32)) + (1 : Int32)))] []))
      refine own_go (fun _ => XS.iloadN X9.here hx rfl (hb hby d8_92) rfl) ?_
      show own_Go p e below _ (T9.setTop (mkF m 93 #[.val (.ref a), .val (.ref tt), .val (.int (1 : Int32)), .val (.int ((0 : Int32) ||| (0 : Int32))), .val (.int ((((0 : Int32) + (1 : Int32)) + (1 : Int32)) + (1 : Int32)))] [(.int ((0 : Int32) ||| (0 : Int32)))]))
      refine own_go (fun _ => XS.ifYes X9.here hx rfl (pc0 := 93) (pc' := 101) rfl (hb hby d8_93) rfl (XT.i0_eq_t (by decide)) (by decide) (by decide)) ?_
      show own_Go p e below _ (T9.setTop (mkF m 101 #[.val (.ref a), .val (.ref tt), .val (.int (1 : Int32)), .val (.int ((0 : Int32) ||| (0 : Int32))), .val (.int ((((0 : Int32) + (1 : Int32)) + (1 : Int32)) + (1 : Int32)))] []))
      refine own_go (fun _ => XS.iloadN X9.here hx rfl (hb hby d8_101) rfl) ?_
      show own_Go p e below _ (T9.setTop (mkF m 102 #[.val (.ref a), .val (.ref tt), .val (.int (1 : Int32)), .val (.int ((0 : Int32) ||| (0 : Int32))), .val (.int ((((0 : Int32) + (1 : Int32)) + (1 : Int32)) + (1 : Int32)))] [(.int (1 : Int32))]))
      refine own_go (fun _ => XS.ifNo X9.here hx rfl (hb hby d8_102) rfl (XT.i0_eq_f (by decide))) ?_
      show own_Go p e below _ (T9.setTop (mkF m 105 #[.val (.ref a), .val (.ref tt), .val (.int (1 : Int32)), .val (.int ((0 : Int32) ||| (0 : Int32))), .val (.int ((((0 : Int32) + (1 : Int32)) + (1 : Int32)) + (1 : Int32)))] []))
      refine own_go (fun _ => XS.aloadN X9.here hx rfl (hb hby d8_105) rfl rfl) ?_
      show own_Go p e below _ (T9.setTop (mkF m 106 #[.val (.ref a), .val (.ref tt), .val (.int (1 : Int32)), .val (.int ((0 : Int32) ||| (0 : Int32))), .val (.int ((((0 : Int32) + (1 : Int32)) + (1 : Int32)) + (1 : Int32)))] [(.ref a)]))
      obtain ⟨T10, X10, e10, st10⟩ := getF X9 hx hZ hown (host := "") (Or.inl (hw _ (List.mem_of_getElem? (i := 20) rfl))) Via.refl e9 o_marks_8 (g := (mkF m 106 #[.val (.ref a), .val (.ref tt), .val (.int (1 : Int32)), .val (.int ((0 : Int32) ||| (0 : Int32))), .val (.int ((((0 : Int32) + (1 : Int32)) + (1 : Int32)) + (1 : Int32)))] [(.ref a)])) rfl rfl (hb hby d8_106)
      refine own_go st10 ?_
      show own_Go p e below _ (T10.setTop (mkF m 109 #[.val (.ref a), .val (.ref tt), .val (.int (1 : Int32)), .val (.int ((0 : Int32) ||| (0 : Int32))), .val (.int ((((0 : Int32) + (1 : Int32)) + (1 : Int32)) + (1 : Int32)))] [(.ref mm)]))
      refine own_go (fun _ => XS.aloadN X10.here hx rfl (hb hby d8_109) rfl rfl) ?_
      show own_Go p e below _ (T10.setTop (mkF m 110 #[.val (.ref a), .val (.ref tt), .val (.int (1 : Int32)), .val (.int ((0 : Int32) ||| (0 : Int32))), .val (.int ((((0 : Int32) + (1 : Int32)) + (1 : Int32)) + (1 : Int32)))] [(.ref a), (.ref mm)]))
      refine own_go (fun _ => XS.dup X10.here hx rfl (hb hby d8_110) rfl rfl) ?_
      show own_Go p e below _ (T10.setTop (mkF m 111 #[.val (.ref a), .val (.ref tt), .val (.int (1 : Int32)), .val (.int ((0 : Int32) ||| (0 : Int32))), .val (.int ((((0 : Int32) + (1 : Int32)) + (1 : Int32)) + (1 : Int32)))] [(.ref a), (.ref a), (.ref mm)]))
      obtain ⟨T11, X11, e11, st11⟩ := getF X10 hx hZ hown (host := "") (Or.inl (hw _ (List.mem_of_getElem? (i := 22) rfl))) Via.refl e10 o_marked_8 (g := (mkF m 111 #[.val (.ref a), .val (.ref tt), .val (.int (1 : Int32)), .val (.int ((0 : Int32) ||| (0 : Int32))), .val (.int ((((0 : Int32) + (1 : Int32)) + (1 : Int32)) + (1 : Int32)))] [(.ref a), (.ref a), (.ref mm)])) rfl rfl (hb hby d8_111)
      refine own_go st11 ?_
      show own_Go p e below _ (T11.setTop (mkF m 114 #[.val (.ref a), .val (.ref tt), .val (.int (1 : Int32)), .val (.int ((0 : Int32) ||| (0 : Int32))), .val (.int ((((0 : Int32) + (1 : Int32)) + (1 : Int32)) + (1 : Int32)))] [(.int (1 : Int32)), (.ref a), (.ref mm)]))
      refine own_go (fun _ => XT.dupX1 X11.here hx rfl (hb hby d8_114) rfl rfl rfl) ?_
      show own_Go p e below _ (T11.setTop (mkF m 115 #[.val (.ref a), .val (.ref tt), .val (.int (1 : Int32)), .val (.int ((0 : Int32) ||| (0 : Int32))), .val (.int ((((0 : Int32) + (1 : Int32)) + (1 : Int32)) + (1 : Int32)))] [(.int (1 : Int32)), (.ref a), (.int (1 : Int32)), (.ref mm)]))
      refine own_go (fun _ => XS.iconst X11.here hx rfl (hb hby d8_115)) ?_
      show own_Go p e below _ (T11.setTop (mkF m 116 #[.val (.ref a), .val (.ref tt), .val (.int (1 : Int32)), .val (.int ((0 : Int32) ||| (0 : Int32))), .val (.int ((((0 : Int32) + (1 : Int32)) + (1 : Int32)) + (1 : Int32)))] [(.int (1 : Int32)), (.int (1 : Int32)), (.ref a), (.int (1 : Int32)), (.ref mm)]))
      refine own_go (fun _ => XS.iadd X11.here hx rfl (hb hby d8_116) rfl) ?_
      show own_Go p e below _ (T11.setTop (mkF m 117 #[.val (.ref a), .val (.ref tt), .val (.int (1 : Int32)), .val (.int ((0 : Int32) ||| (0 : Int32))), .val (.int ((((0 : Int32) + (1 : Int32)) + (1 : Int32)) + (1 : Int32)))] [(.int ((1 : Int32) + (1 : Int32))), (.ref a), (.int (1 : Int32)), (.ref mm)]))
      obtain ⟨T12, h12, X12, e12, W12, st12⟩ := putF X11 hx hZ hown (host := "") (Or.inl (hw _ (List.mem_of_getElem? (i := 22) rfl))) Via.refl e11 o_marked_8 o_E_8 (Or.inl (hw _ (List.mem_of_getElem? (i := 23) rfl))) (hw _ (List.mem_of_getElem? (i := 8) rfl)) (ty := .int) (by decide) rfl rfl (g := (mkF m 117 #[.val (.ref a), .val (.ref tt), .val (.int (1 : Int32)), .val (.int ((0 : Int32) ||| (0 : Int32))), .val (.int ((((0 : Int32) + (1 : Int32)) + (1 : Int32)) + (1 : Int32)))] [(.int ((1 : Int32) + (1 : Int32))), (.ref a), (.int (1 : Int32)), (.ref mm)])) rfl rfl (hb hby d8_117)
      have N12 := Fr.snoc X12 N8 ga
      have o_E_12 := o_E_8.wr W12
      have r_E_12 := r_E_8.wr W12
      have o_self_12 := o_self_8.other W12 (Or.inr (slot_ne (t := .int) (t' := .int) (Or.inr (hw _ (List.mem_of_getElem? (i := 17) rfl))) (Or.inl (hw _ (List.mem_of_getElem? (i := 23) rfl))) (by decide) (by decide) (by decide)))
      have o_runs_12 := o_runs_8.other W12 (Or.inr (slot_ne (t := (.array .long)) (t' := .int) (Or.inr (hw _ (List.mem_of_getElem? (i := 19) rfl))) (Or.inl (hw _ (List.mem_of_getElem? (i := 23) rfl))) (by decide) (by decide) (by decide)))
      have o_marks_12 := o_marks_8.other W12 (Or.inr (slot_ne (t := (.array .long)) (t' := .int) (Or.inr (hw _ (List.mem_of_getElem? (i := 21) rfl))) (Or.inl (hw _ (List.mem_of_getElem? (i := 23) rfl))) (by decide) (by decide) (by decide)))
      have o_marked_12 := o_marked_8.same W12
      have o_heard_12 := o_heard_8.other W12 (Or.inr (slot_ne (t := (.array .long)) (t' := .int) (Or.inr (hw _ (List.mem_of_getElem? (i := 34) rfl))) (Or.inl (hw _ (List.mem_of_getElem? (i := 23) rfl))) (by decide) (by decide) (by decide)))
      have o_preceded_12 := o_preceded_8.other W12 (Or.inr (slot_ne (t := .boolean) (t' := .int) (Or.inl (hw _ (List.mem_of_getElem? (i := 41) rfl))) (Or.inl (hw _ (List.mem_of_getElem? (i := 23) rfl))) (by decide) (by decide) (by decide)))
      have o_chosen_12 := o_chosen_8.other W12 (Or.inr (slot_ne (t := .boolean) (t' := .int) (Or.inl (hw _ (List.mem_of_getElem? (i := 43) rfl))) (Or.inl (hw _ (List.mem_of_getElem? (i := 23) rfl))) (by decide) (by decide) (by decide)))
      have r_A_12 := A8.other W12 (Ne.symm ne_a_rr)
      have m_A_12 := m_A_8.other W12 (Ne.symm ne_a_mm)
      have h_A_12 := h_A_8.other W12 (Ne.symm ne_a_hh)
      have t_A_12 := t_A_8.other W12 (Ne.symm ne_a_tt)
      have K12 := K8.wr W12 (Or.inl (List.mem_of_getElem? (i := 0) rfl))
      refine own_go st12 ?_
      show own_Go p e below _ (T12.setTop (mkF m 120 #[.val (.ref a), .val (.ref tt), .val (.int (1 : Int32)), .val (.int ((0 : Int32) ||| (0 : Int32))), .val (.int ((((0 : Int32) + (1 : Int32)) + (1 : Int32)) + (1 : Int32)))] [(.int (1 : Int32)), (.ref mm)]))
      refine own_go (fun _ => XS.aloadN X12.here hx rfl (hb hby d8_120) rfl rfl) ?_
      show own_Go p e below _ (T12.setTop (mkF m 121 #[.val (.ref a), .val (.ref tt), .val (.int (1 : Int32)), .val (.int ((0 : Int32) ||| (0 : Int32))), .val (.int ((((0 : Int32) + (1 : Int32)) + (1 : Int32)) + (1 : Int32)))] [(.ref a), (.int (1 : Int32)), (.ref mm)]))
      obtain ⟨T13, X13, e13, st13⟩ := getF X12 hx hZ hown (host := "") (Or.inl (hw _ (List.mem_of_getElem? (i := 18) rfl))) Via.refl e12 o_runs_12 (g := (mkF m 121 #[.val (.ref a), .val (.ref tt), .val (.int (1 : Int32)), .val (.int ((0 : Int32) ||| (0 : Int32))), .val (.int ((((0 : Int32) + (1 : Int32)) + (1 : Int32)) + (1 : Int32)))] [(.ref a), (.int (1 : Int32)), (.ref mm)])) rfl rfl (hb hby d8_121)
      refine own_go st13 ?_
      show own_Go p e below _ (T13.setTop (mkF m 124 #[.val (.ref a), .val (.ref tt), .val (.int (1 : Int32)), .val (.int ((0 : Int32) ||| (0 : Int32))), .val (.int ((((0 : Int32) + (1 : Int32)) + (1 : Int32)) + (1 : Int32)))] [(.ref rr), (.int (1 : Int32)), (.ref mm)]))
      have r_Ax : own_AV Z h12 rr .long [.long r0, .long 0, .long y1] := r_A_12
      obtain ⟨_, T14, L14, X14, ⟨rfl, eh14, rfl⟩, st14⟩ := own_callS X13 hx hZ hown (argsL := [(.ref rr)]) (rest := [(.int (1 : Int32)), (.ref mm)]) (own_markOf_con l Z a0 hw rr r0 0 y1 h12 r_Ax []) e13 (hw _ (List.mem_of_getElem? (i := 24) rfl)) (hw _ (List.mem_of_getElem? (i := 25) rfl)) (hw _ (List.mem_of_getElem? (i := 9) rfl)) (hw _ (List.mem_of_getElem? (i := 26) rfl)) (by decide) (by decide +kernel : parseMethodDescriptor "([J)J" = some ⟨[(.array .long)], some .long⟩) rfl (g := (mkF m 124 #[.val (.ref a), .val (.ref tt), .val (.int (1 : Int32)), .val (.int ((0 : Int32) ||| (0 : Int32))), .val (.int ((((0 : Int32) + (1 : Int32)) + (1 : Int32)) + (1 : Int32)))] [(.ref rr), (.int (1 : Int32)), (.ref mm)])) rfl (by rw [hml]; rfl) rfl 2 (by show 2 * 0 + _ ≤ _; exact Nat.le_of_eq rfl) (hb hby d8_124) (by decide) (by decide) (by decide) (by decide)
      rw [List.append_nil] at X14
      refine own_go st14 ?_
      show own_Go p e below _ (T14.setTop (mkF m 127 #[.val (.ref a), .val (.ref tt), .val (.int (1 : Int32)), .val (.int ((0 : Int32) ||| (0 : Int32))), .val (.int ((((0 : Int32) + (1 : Int32)) + (1 : Int32)) + (1 : Int32)))] [(.long (own_mark r0 0 y1)), (.int (1 : Int32)), (.ref mm)]))
      obtain ⟨T15, h15, X15, e15, W15, A15, st15⟩ := own_stJ X14 hx hZ eh14 m_A_12 (g := (mkF m 127 #[.val (.ref a), .val (.ref tt), .val (.int (1 : Int32)), .val (.int ((0 : Int32) ||| (0 : Int32))), .val (.int ((((0 : Int32) + (1 : Int32)) + (1 : Int32)) + (1 : Int32)))] [(.long (own_mark r0 0 y1)), (.int (1 : Int32)), (.ref mm)])) rfl rfl (hb hby d8_127) 1 (by decide) (by simp)
      have N15 := Fr.snoc X15 N12 gm
      have o_E_15 := o_E_12.wr W15
      have r_E_15 := r_E_12.wr W15
      have o_self_15 := o_self_12.other W15 (Or.inl ne_a_mm)
      have o_runs_15 := o_runs_12.other W15 (Or.inl ne_a_mm)
      have o_marks_15 := o_marks_12.other W15 (Or.inl ne_a_mm)
      have o_marked_15 := o_marked_12.other W15 (Or.inl ne_a_mm)
      have o_heard_15 := o_heard_12.other W15 (Or.inl ne_a_mm)
      have o_preceded_15 := o_preceded_12.other W15 (Or.inl ne_a_mm)
      have o_chosen_15 := o_chosen_12.other W15 (Or.inl ne_a_mm)
      have r_A_15 := r_Ax.other W15 ne_rr_mm
      have h_A_15 := h_A_12.other W15 (Ne.symm ne_mm_hh)
      have t_A_15 := t_A_12.other W15 ne_tt_mm
      have K15 := K12.wr W15 (Or.inl (List.mem_of_getElem? (i := 2) rfl))
      refine own_go st15 ?_
      show own_Go p e below _ (T15.setTop (mkF m 128 #[.val (.ref a), .val (.ref tt), .val (.int (1 : Int32)), .val (.int ((0 : Int32) ||| (0 : Int32))), .val (.int ((((0 : Int32) + (1 : Int32)) + (1 : Int32)) + (1 : Int32)))] []))
      refine own_go (fun _ => XS.aloadN X15.here hx rfl (hb hby d8_128) rfl rfl) ?_
      show own_Go p e below _ (T15.setTop (mkF m 129 #[.val (.ref a), .val (.ref tt), .val (.int (1 : Int32)), .val (.int ((0 : Int32) ||| (0 : Int32))), .val (.int ((((0 : Int32) + (1 : Int32)) + (1 : Int32)) + (1 : Int32)))] [(.ref a)]))
      refine own_go (fun _ => XS.dup X15.here hx rfl (hb hby d8_129) rfl rfl) ?_
      show own_Go p e below _ (T15.setTop (mkF m 130 #[.val (.ref a), .val (.ref tt), .val (.int (1 : Int32)), .val (.int ((0 : Int32) ||| (0 : Int32))), .val (.int ((((0 : Int32) + (1 : Int32)) + (1 : Int32)) + (1 : Int32)))] [(.ref a), (.ref a)]))
      obtain ⟨T16, X16, e16, st16⟩ := getF X15 hx hZ hown (host := "") (Or.inl (hw _ (List.mem_of_getElem? (i := 42) rfl))) Via.refl e15 o_chosen_15 (g := (mkF m 130 #[.val (.ref a), .val (.ref tt), .val (.int (1 : Int32)), .val (.int ((0 : Int32) ||| (0 : Int32))), .val (.int ((((0 : Int32) + (1 : Int32)) + (1 : Int32)) + (1 : Int32)))] [(.ref a), (.ref a)])) rfl rfl (hb hby d8_130)
      refine own_go st16 ?_
      show own_Go p e below _ (T16.setTop (mkF m 133 #[.val (.ref a), .val (.ref tt), .val (.int (1 : Int32)), .val (.int ((0 : Int32) ||| (0 : Int32))), .val (.int ((((0 : Int32) + (1 : Int32)) + (1 : Int32)) + (1 : Int32)))] [(.int (0 : Int32)), (.ref a)]))
      refine own_go (fun _ => XS.aloadN X16.here hx rfl (hb hby d8_133) rfl rfl) ?_
      show own_Go p e below _ (T16.setTop (mkF m 134 #[.val (.ref a), .val (.ref tt), .val (.int (1 : Int32)), .val (.int ((0 : Int32) ||| (0 : Int32))), .val (.int ((((0 : Int32) + (1 : Int32)) + (1 : Int32)) + (1 : Int32)))] [(.ref a), (.int (0 : Int32)), (.ref a)]))
      have I1 : own_Runs Z h15 a rr mm hh [.long r0, .long 0, .long y1] [.long (own_mark r0 0 0), .long (own_mark r0 0 y1), .long 0] hs (1 + 1) pr 0 := ⟨⟨o_E_15, r_E_15, r_A_15, A15, h_A_15⟩, ⟨o_self_15, o_runs_15, o_marks_15, o_marked_15, o_heard_15, o_preceded_15, o_chosen_15⟩, ⟨ne_a_rr, ne_a_mm, ne_a_hh, ne_rr_mm, ne_rr_hh, ne_mm_hh⟩⟩
      obtain ⟨_, T17, L17, X17, ⟨rfl, eh17, rfl⟩, st17⟩ := own_callP X16 hx hZ hown (argsL := []) (rest := [(.int (0 : Int32)), (.ref a)]) (own_know_con l Z a0 hw a rr mm hh r0 0 y1 _ hs (1 + 1) pr 0 h15 I1 []) e16 o_E_15 (hw _ (List.mem_of_getElem? (i := 52) rfl)) (hw _ (List.mem_of_getElem? (i := 53) rfl)) (hw _ (List.mem_of_getElem? (i := 54) rfl)) (hw _ (List.mem_of_getElem? (i := 8) rfl)) (hw _ (List.mem_of_getElem? (i := 9) rfl)) (hw _ (List.mem_of_getElem? (i := 55) rfl)) (by decide) (by decide +kernel : parseMethodDescriptor "()Z" = some ⟨[], some .boolean⟩) rfl (g := (mkF m 134 #[.val (.ref a), .val (.ref tt), .val (.int (1 : Int32)), .val (.int ((0 : Int32) ||| (0 : Int32))), .val (.int ((((0 : Int32) + (1 : Int32)) + (1 : Int32)) + (1 : Int32)))] [(.ref a), (.int (0 : Int32)), (.ref a)])) rfl (by rw [hml]; rfl) rfl 2 (by show 2 * 0 + _ ≤ _; exact Nat.le_of_eq rfl) (hb hby d8_134) (by decide) (by decide) (by decide) (by decide)
      rw [List.append_nil] at X17
      refine own_go st17 ?_
      show own_Go p e below _ (T17.setTop (mkF m 137 #[.val (.ref a), .val (.ref tt), .val (.int (1 : Int32)), .val (.int ((0 : Int32) ||| (0 : Int32))), .val (.int ((((0 : Int32) + (1 : Int32)) + (1 : Int32)) + (1 : Int32)))] [(.int (own_know r0 0 y1)), (.int (0 : Int32)), (.ref a)]))
      refine own_go (fun _ => XT.ior X17.here hx rfl (hb hby d8_137) rfl) ?_
      show own_Go p e below _ (T17.setTop (mkF m 138 #[.val (.ref a), .val (.ref tt), .val (.int (1 : Int32)), .val (.int ((0 : Int32) ||| (0 : Int32))), .val (.int ((((0 : Int32) + (1 : Int32)) + (1 : Int32)) + (1 : Int32)))] [(.int ((0 : Int32) ||| (own_know r0 0 y1))), (.ref a)]))
      have hk : narrow .boolean (.int ((0 : Int32) ||| own_know r0 0 y1)) = .int ((0 : Int32) ||| own_know r0 0 y1) ∧ fits .boolean (.int ((0 : Int32) ||| own_know r0 0 y1)) = true := by
        rcases own_know01 r0 0 y1 with q | q <;> rw [q] <;> exact ⟨rfl, rfl⟩
      obtain ⟨T18, h18, X18, e18, W18, st18⟩ := putF X17 hx hZ hown (host := "") (Or.inl (hw _ (List.mem_of_getElem? (i := 42) rfl))) Via.refl eh17 o_chosen_15 o_E_15 (Or.inl (hw _ (List.mem_of_getElem? (i := 43) rfl))) (hw _ (List.mem_of_getElem? (i := 8) rfl)) (ty := .boolean) (by decide) hk.1 hk.2 (g := (mkF m 138 #[.val (.ref a), .val (.ref tt), .val (.int (1 : Int32)), .val (.int ((0 : Int32) ||| (0 : Int32))), .val (.int ((((0 : Int32) + (1 : Int32)) + (1 : Int32)) + (1 : Int32)))] [(.int ((0 : Int32) ||| (own_know r0 0 y1))), (.ref a)])) rfl rfl (hb hby d8_138)
      have N18 := Fr.snoc X18 N15 ga
      have o_E_18 := o_E_15.wr W18
      have r_E_18 := r_E_15.wr W18
      have o_self_18 := o_self_15.other W18 (Or.inr (slot_ne (t := .int) (t' := .boolean) (Or.inr (hw _ (List.mem_of_getElem? (i := 17) rfl))) (Or.inl (hw _ (List.mem_of_getElem? (i := 43) rfl))) (by decide) (by decide) (by decide)))
      have o_runs_18 := o_runs_15.other W18 (Or.inr (slot_ne (t := (.array .long)) (t' := .boolean) (Or.inr (hw _ (List.mem_of_getElem? (i := 19) rfl))) (Or.inl (hw _ (List.mem_of_getElem? (i := 43) rfl))) (by decide) (by decide) (by decide)))
      have o_marks_18 := o_marks_15.other W18 (Or.inr (slot_ne (t := (.array .long)) (t' := .boolean) (Or.inr (hw _ (List.mem_of_getElem? (i := 21) rfl))) (Or.inl (hw _ (List.mem_of_getElem? (i := 43) rfl))) (by decide) (by decide) (by decide)))
      have o_marked_18 := o_marked_15.other W18 (Or.inr (slot_ne (t := .int) (t' := .boolean) (Or.inl (hw _ (List.mem_of_getElem? (i := 23) rfl))) (Or.inl (hw _ (List.mem_of_getElem? (i := 43) rfl))) (by decide) (by decide) (by decide)))
      have o_heard_18 := o_heard_15.other W18 (Or.inr (slot_ne (t := (.array .long)) (t' := .boolean) (Or.inr (hw _ (List.mem_of_getElem? (i := 34) rfl))) (Or.inl (hw _ (List.mem_of_getElem? (i := 43) rfl))) (by decide) (by decide) (by decide)))
      have o_preceded_18 := o_preceded_15.other W18 (Or.inr (slot_ne (t := .boolean) (t' := .boolean) (Or.inl (hw _ (List.mem_of_getElem? (i := 41) rfl))) (Or.inl (hw _ (List.mem_of_getElem? (i := 43) rfl))) (by decide) (by decide) (by decide)))
      have o_chosen_18 := o_chosen_15.same W18
      have r_A_18 := r_A_15.other W18 (Ne.symm ne_a_rr)
      have m_A_18 := A15.other W18 (Ne.symm ne_a_mm)
      have h_A_18 := h_A_15.other W18 (Ne.symm ne_a_hh)
      have t_A_18 := t_A_15.other W18 (Ne.symm ne_a_tt)
      have K18 := K15.wr W18 (Or.inl (List.mem_of_getElem? (i := 0) rfl))
      refine own_go st18 ?_
      show own_Go p e below _ (T18.setTop (mkF m 141 #[.val (.ref a), .val (.ref tt), .val (.int (1 : Int32)), .val (.int ((0 : Int32) ||| (0 : Int32))), .val (.int ((((0 : Int32) + (1 : Int32)) + (1 : Int32)) + (1 : Int32)))] []))
      have r_Az : own_AV Z h18 rr .long [.long r0, .long y0, .long y1] := by
        have q : own_AV Z h18 rr .long [.long r0, .long 0, .long y1] := r_A_18
        rw [hz0]; exact q
      exact own_vret X18 hx hlk hret (hb hby d8_141) (by decide) (by decide) (by rw [e18]; exact ⟨rfl, N18, K18, _, _, _, 1, ⟨⟨o_E_18, r_E_18, r_Az, m_A_18, h_A_18⟩, ⟨o_self_18, o_runs_18, o_marks_18, o_marked_18, o_heard_18, o_preceded_18, o_chosen_18⟩, ⟨ne_a_rr, ne_a_mm, ne_a_hh, ne_rr_mm, ne_rr_hh, ne_mm_hh⟩⟩, by decide, ⟨_, rfl, (own_mark_ne r0 0 y1)⟩, rfl⟩)
  · skip
    refine own_go (fun _ => XS.ifNo X2.here hx rfl (hb hby d8_23) rfl (XT.ll_eq_f hz0)) ?_
    show own_Go p e below _ (T2.setTop (mkF m 26 #[.val (.ref a), .val (.ref tt), .val (.int (0 : Int32)), .val (.int (0 : Int32)), .val (.int ((0 : Int32) + (1 : Int32)))] []))
    refine own_go (fun _ => XS.aloadN X2.here hx rfl (hb hby d8_26) rfl rfl) ?_
    show own_Go p e below _ (T2.setTop (mkF m 27 #[.val (.ref a), .val (.ref tt), .val (.int (0 : Int32)), .val (.int (0 : Int32)), .val (.int ((0 : Int32) + (1 : Int32)))] [(.ref a)]))
    obtain ⟨T19, X19, e19, st19⟩ := getF X2 hx hZ hown (host := "") (Or.inl (hw _ (List.mem_of_getElem? (i := 18) rfl))) Via.refl e2 o_runs0 (g := (mkF m 27 #[.val (.ref a), .val (.ref tt), .val (.int (0 : Int32)), .val (.int (0 : Int32)), .val (.int ((0 : Int32) + (1 : Int32)))] [(.ref a)])) rfl rfl (hb hby d8_27)
    refine own_go st19 ?_
    show own_Go p e below _ (T19.setTop (mkF m 30 #[.val (.ref a), .val (.ref tt), .val (.int (0 : Int32)), .val (.int (0 : Int32)), .val (.int ((0 : Int32) + (1 : Int32)))] [(.ref rr)]))
    refine own_go (fun _ => XS.iload X19.here hx rfl (hb hby d8_30) rfl) ?_
    show own_Go p e below _ (T19.setTop (mkF m 32 #[.val (.ref a), .val (.ref tt), .val (.int (0 : Int32)), .val (.int (0 : Int32)), .val (.int ((0 : Int32) + (1 : Int32)))] [(.int ((0 : Int32) + (1 : Int32))), (.ref rr)]))
    refine own_go (own_ldJ X19 hx hZ e19 r_A0 (g := (mkF m 32 #[.val (.ref a), .val (.ref tt), .val (.int (0 : Int32)), .val (.int (0 : Int32)), .val (.int ((0 : Int32) + (1 : Int32)))] [(.int ((0 : Int32) + (1 : Int32))), (.ref rr)])) rfl rfl (hb hby d8_32) 1 (by decide) (x := (.long (0 : Int64))) rfl) ?_
    show own_Go p e below _ (T19.setTop (mkF m 33 #[.val (.ref a), .val (.ref tt), .val (.int (0 : Int32)), .val (.int (0 : Int32)), .val (.int ((0 : Int32) + (1 : Int32)))] [(.long (0 : Int64))]))
    refine own_go (fun _ => XT.lconst X19.here hx rfl (hb hby d8_33)) ?_
    show own_Go p e below _ (T19.setTop (mkF m 34 #[.val (.ref a), .val (.ref tt), .val (.int (0 : Int32)), .val (.int (0 : Int32)), .val (.int ((0 : Int32) + (1 : Int32)))] [(.long (0 : Int64)), (.long (0 : Int64))]))
    refine own_go (fun _ => XT.lcmp X19.here hx rfl (hb hby d8_34) rfl) ?_
    show own_Go p e below _ (T19.setTop (mkF m 35 #[.val (.ref a), .val (.ref tt), .val (.int (0 : Int32)), .val (.int (0 : Int32)), .val (.int ((0 : Int32) + (1 : Int32)))] [(.int (XT.cmpL (0 : Int64) (0 : Int64)))]))
    refine own_go (fun _ => XS.ifYes X19.here hx rfl (pc0 := 35) (pc' := 53) rfl (hb hby d8_35) rfl (XT.ll_eq_t (by decide)) (by decide) (by decide)) ?_
    show own_Go p e below _ (T19.setTop (mkF m 53 #[.val (.ref a), .val (.ref tt), .val (.int (0 : Int32)), .val (.int (0 : Int32)), .val (.int ((0 : Int32) + (1 : Int32)))] []))
    refine own_go (fun _ => XS.iloadN X19.here hx rfl (hb hby d8_53) rfl) ?_
    show own_Go p e below _ (T19.setTop (mkF m 54 #[.val (.ref a), .val (.ref tt), .val (.int (0 : Int32)), .val (.int (0 : Int32)), .val (.int ((0 : Int32) + (1 : Int32)))] [(.int (0 : Int32))]))
    refine own_go (fun _ => XS.aloadN X19.here hx rfl (hb hby d8_54) rfl rfl) ?_
    show own_Go p e below _ (T19.setTop (mkF m 55 #[.val (.ref a), .val (.ref tt), .val (.int (0 : Int32)), .val (.int (0 : Int32)), .val (.int ((0 : Int32) + (1 : Int32)))] [(.ref a), (.int (0 : Int32))]))
    obtain ⟨T20, X20, e20, st20⟩ := getF X19 hx hZ hown (host := "") (Or.inl (hw _ (List.mem_of_getElem? (i := 18) rfl))) Via.refl e19 o_runs0 (g := (mkF m 55 #[.val (.ref a), .val (.ref tt), .val (.int (0 : Int32)), .val (.int (0 : Int32)), .val (.int ((0 : Int32) + (1 : Int32)))] [(.ref a), (.int (0 : Int32))])) rfl rfl (hb hby d8_55)
    refine own_go st20 ?_
    show own_Go p e below _ (T20.setTop (mkF m 58 #[.val (.ref a), .val (.ref tt), .val (.int (0 : Int32)), .val (.int (0 : Int32)), .val (.int ((0 : Int32) + (1 : Int32)))] [(.ref rr), (.int (0 : Int32))]))
    refine own_go (fun _ => XS.iload X20.here hx rfl (hb hby d8_58) rfl) ?_
    show own_Go p e below _ (T20.setTop (mkF m 60 #[.val (.ref a), .val (.ref tt), .val (.int (0 : Int32)), .val (.int (0 : Int32)), .val (.int ((0 : Int32) + (1 : Int32)))] [(.int ((0 : Int32) + (1 : Int32))), (.ref rr), (.int (0 : Int32))]))
    refine own_go (own_ldJ X20 hx hZ e20 r_A0 (g := (mkF m 60 #[.val (.ref a), .val (.ref tt), .val (.int (0 : Int32)), .val (.int (0 : Int32)), .val (.int ((0 : Int32) + (1 : Int32)))] [(.int ((0 : Int32) + (1 : Int32))), (.ref rr), (.int (0 : Int32))])) rfl rfl (hb hby d8_60) 1 (by decide) (x := (.long (0 : Int64))) rfl) ?_
    show own_Go p e below _ (T20.setTop (mkF m 61 #[.val (.ref a), .val (.ref tt), .val (.int (0 : Int32)), .val (.int (0 : Int32)), .val (.int ((0 : Int32) + (1 : Int32)))] [(.long (0 : Int64)), (.int (0 : Int32))]))
    refine own_go (fun _ => XT.lconst X20.here hx rfl (hb hby d8_61)) ?_
    show own_Go p e below _ (T20.setTop (mkF m 62 #[.val (.ref a), .val (.ref tt), .val (.int (0 : Int32)), .val (.int (0 : Int32)), .val (.int ((0 : Int32) + (1 : Int32)))] [(.long (0 : Int64)), (.long (0 : Int64)), (.int (0 : Int32))]))
    refine own_go (fun _ => XT.lcmp X20.here hx rfl (hb hby d8_62) rfl) ?_
    show own_Go p e below _ (T20.setTop (mkF m 63 #[.val (.ref a), .val (.ref tt), .val (.int (0 : Int32)), .val (.int (0 : Int32)), .val (.int ((0 : Int32) + (1 : Int32)))] [(.int (XT.cmpL (0 : Int64) (0 : Int64))), (.int (0 : Int32))]))
    refine own_go (fun _ => XS.ifYes X20.here hx rfl (pc0 := 63) (pc' := 70) rfl (hb hby d8_63) rfl (XT.ll_eq_t (by decide)) (by decide) (by decide)) ?_
    show own_Go p e below _ (T20.setTop (mkF m 70 #[.val (.ref a), .val (.ref tt), .val (.int (0 : Int32)), .val (.int (0 : Int32)), .val (.int ((0 : Int32) + (1 : Int32)))] [(.int (0 : Int32))]))
    refine own_go (fun _ => XS.iconst X20.here hx rfl (hb hby d8_70)) ?_
    show own_Go p e below _ (T20.setTop (mkF m 71 #[.val (.ref a), .val (.ref tt), .val (.int (0 : Int32)), .val (.int (0 : Int32)), .val (.int ((0 : Int32) + (1 : Int32)))] [(.int (0 : Int32)), (.int (0 : Int32))]))
    refine own_go (fun _ => XT.ior X20.here hx rfl (hb hby d8_71) rfl) ?_
    show own_Go p e below _ (T20.setTop (mkF m 72 #[.val (.ref a), .val (.ref tt), .val (.int (0 : Int32)), .val (.int (0 : Int32)), .val (.int ((0 : Int32) + (1 : Int32)))] [(.int ((0 : Int32) ||| (0 : Int32)))]))
    refine own_go (fun _ => XS.istoreN X20.here hx rfl (hb hby d8_72) rfl (l' := #[.val (.ref a), .val (.ref tt), .val (.int (0 : Int32)), .val (.int ((0 : Int32) ||| (0 : Int32))), .val (.int ((0 : Int32) + (1 : Int32)))]) rfl) ?_
    show own_Go p e below _ (T20.setTop (mkF m 73 #[.val (.ref a), .val (.ref tt), .val (.int (0 : Int32)), .val (.int ((0 : Int32) ||| (0 : Int32))), .val (.int ((0 : Int32) + (1 : Int32)))] []))
    refine own_go (fun _ => XS.aloadN X20.here hx rfl (hb hby d8_73) rfl rfl) ?_
    show own_Go p e below _ (T20.setTop (mkF m 74 #[.val (.ref a), .val (.ref tt), .val (.int (0 : Int32)), .val (.int ((0 : Int32) ||| (0 : Int32))), .val (.int ((0 : Int32) + (1 : Int32)))] [(.ref a)]))
    obtain ⟨T21, X21, e21, st21⟩ := getF X20 hx hZ hown (host := "") (Or.inl (hw _ (List.mem_of_getElem? (i := 18) rfl))) Via.refl e20 o_runs0 (g := (mkF m 74 #[.val (.ref a), .val (.ref tt), .val (.int (0 : Int32)), .val (.int ((0 : Int32) ||| (0 : Int32))), .val (.int ((0 : Int32) + (1 : Int32)))] [(.ref a)])) rfl rfl (hb hby d8_74)
    refine own_go st21 ?_
    show own_Go p e below _ (T21.setTop (mkF m 77 #[.val (.ref a), .val (.ref tt), .val (.int (0 : Int32)), .val (.int ((0 : Int32) ||| (0 : Int32))), .val (.int ((0 : Int32) + (1 : Int32)))] [(.ref rr)]))
    refine own_go (fun _ => XS.iload X21.here hx rfl (hb hby d8_77) rfl) ?_
    show own_Go p e below _ (T21.setTop (mkF m 79 #[.val (.ref a), .val (.ref tt), .val (.int (0 : Int32)), .val (.int ((0 : Int32) ||| (0 : Int32))), .val (.int ((0 : Int32) + (1 : Int32)))] [(.int ((0 : Int32) + (1 : Int32))), (.ref rr)]))
    refine own_go (fun _ => XS.aloadN X21.here hx rfl (hb hby d8_79) rfl rfl) ?_
    show own_Go p e below _ (T21.setTop (mkF m 80 #[.val (.ref a), .val (.ref tt), .val (.int (0 : Int32)), .val (.int ((0 : Int32) ||| (0 : Int32))), .val (.int ((0 : Int32) + (1 : Int32)))] [(.ref tt), (.int ((0 : Int32) + (1 : Int32))), (.ref rr)]))
    refine own_go (fun _ => XS.iload X21.here hx rfl (hb hby d8_80) rfl) ?_
    show own_Go p e below _ (T21.setTop (mkF m 82 #[.val (.ref a), .val (.ref tt), .val (.int (0 : Int32)), .val (.int ((0 : Int32) ||| (0 : Int32))), .val (.int ((0 : Int32) + (1 : Int32)))] [(.int ((0 : Int32) + (1 : Int32))), (.ref tt), (.int ((0 : Int32) + (1 : Int32))), (.ref rr)]))
    refine own_go (own_ldJ X21 hx hZ e21 t_A0 (g := (mkF m 82 #[.val (.ref a), .val (.ref tt), .val (.int (0 : Int32)), .val (.int ((0 : Int32) ||| (0 : Int32))), .val (.int ((0 : Int32) + (1 : Int32)))] [(.int ((0 : Int32) + (1 : Int32))), (.ref tt), (.int ((0 : Int32) + (1 : Int32))), (.ref rr)])) rfl rfl (hb hby d8_82) 1 (by decide) (x := (.long y0)) rfl) ?_
    show own_Go p e below _ (T21.setTop (mkF m 83 #[.val (.ref a), .val (.ref tt), .val (.int (0 : Int32)), .val (.int ((0 : Int32) ||| (0 : Int32))), .val (.int ((0 : Int32) + (1 : Int32)))] [(.long y0), (.int ((0 : Int32) + (1 : Int32))), (.ref rr)]))
    obtain ⟨T22, h22, X22, e22, W22, A22, st22⟩ := own_stJ X21 hx hZ e21 r_A0 (g := (mkF m 83 #[.val (.ref a), .val (.ref tt), .val (.int (0 : Int32)), .val (.int ((0 : Int32) ||| (0 : Int32))), .val (.int ((0 : Int32) + (1 : Int32)))] [(.long y0), (.int ((0 : Int32) + (1 : Int32))), (.ref rr)])) rfl rfl (hb hby d8_83) 1 (by decide) (by simp)
    have N22 := Fr.snoc X22 N0 gr
    have o_E_22 := o_E0.wr W22
    have r_E_22 := r_E0.wr W22
    have o_self_22 := o_self0.other W22 (Or.inl ne_a_rr)
    have o_runs_22 := o_runs0.other W22 (Or.inl ne_a_rr)
    have o_marks_22 := o_marks0.other W22 (Or.inl ne_a_rr)
    have o_marked_22 := o_marked0.other W22 (Or.inl ne_a_rr)
    have o_heard_22 := o_heard0.other W22 (Or.inl ne_a_rr)
    have o_preceded_22 := o_preceded0.other W22 (Or.inl ne_a_rr)
    have o_chosen_22 := o_chosen0.other W22 (Or.inl ne_a_rr)
    have m_A_22 := m_A0.other W22 (Ne.symm ne_rr_mm)
    have h_A_22 := h_A0.other W22 (Ne.symm ne_rr_hh)
    have t_A_22 := t_A0.other W22 ne_tt_rr
    have K22 := K0.wr W22 (Or.inl (List.mem_of_getElem? (i := 1) rfl))
    refine own_go st22 ?_
    show own_Go p e below _ (T22.setTop (mkF m 84 #[.val (.ref a), .val (.ref tt), .val (.int (0 : Int32)), .val (.int ((0 : Int32) ||| (0 : Int32))), .val (.int ((0 : Int32) + (1 : Int32)))] []))
    refine own_go (fun _ => XS.iconst X22.here hx rfl (hb hby d8_84)) ?_
    show own_Go p e below _ (T22.setTop (mkF m 85 #[.val (.ref a), .val (.ref tt), .val (.int (0 : Int32)), .val (.int ((0 : Int32) ||| (0 : Int32))), .val (.int ((0 : Int32) + (1 : Int32)))] [(.int (1 : Int32))]))
    refine own_go (fun _ => XS.istoreN X22.here hx rfl (hb hby d8_85) rfl (l' := #[.val (.ref a), .val (.ref tt), .val (.int (1 : Int32)), .val (.int ((0 : Int32) ||| (0 : Int32))), .val (.int ((0 : Int32) + (1 : Int32)))]) rfl) ?_
    show own_Go p e below _ (T22.setTop (mkF m 86 #[.val (.ref a), .val (.ref tt), .val (.int (1 : Int32)), .val (.int ((0 : Int32) ||| (0 : Int32))), .val (.int ((0 : Int32) + (1 : Int32)))] []))
    refine own_go (fun _ => XT.iincV X22.here hx rfl (1 : Int32) (hb hby d8_86) rfl rfl (l' := #[.val (.ref a), .val (.ref tt), .val (.int (1 : Int32)), .val (.int ((0 : Int32) ||| (0 : Int32))), .val (.int (((0 : Int32) + (1 : Int32)) + (1 : Int32)))]) rfl) ?_
    show own_Go p e below _ (T22.setTop (mkF m 89 #[.val (.ref a), .val (.ref tt), .val (.int (1 : Int32)), .val (.int ((0 : Int32) ||| (0 : Int32))), .val (.int (((0 : Int32) + (1 : Int32)) + (1 : Int32)))] []))
    refine own_go (fun _ => XS.goto X22.here hx rfl (pc0 := 89) (pc' := 7) rfl (hb hby d8_89) (by decide) (by decide)) ?_
    show own_Go p e below _ (T22.setTop (mkF m 7 #[.val (.ref a), .val (.ref tt), .val (.int (1 : Int32)), .val (.int ((0 : Int32) ||| (0 : Int32))), .val (.int (((0 : Int32) + (1 : Int32)) + (1 : Int32)))] []))
    refine own_go (fun _ => XS.iload X22.here hx rfl (hb hby d8_7) rfl) ?_
    show own_Go p e below _ (T22.setTop (mkF m 9 #[.val (.ref a), .val (.ref tt), .val (.int (1 : Int32)), .val (.int ((0 : Int32) ||| (0 : Int32))), .val (.int (((0 : Int32) + (1 : Int32)) + (1 : Int32)))] [(.int (((0 : Int32) + (1 : Int32)) + (1 : Int32)))]))
    refine own_go (fun _ => XS.aloadN X22.here hx rfl (hb hby d8_9) rfl rfl) ?_
    show own_Go p e below _ (T22.setTop (mkF m 10 #[.val (.ref a), .val (.ref tt), .val (.int (1 : Int32)), .val (.int ((0 : Int32) ||| (0 : Int32))), .val (.int (((0 : Int32) + (1 : Int32)) + (1 : Int32)))] [(.ref a), (.int (((0 : Int32) + (1 : Int32)) + (1 : Int32)))]))
    obtain ⟨T23, X23, e23, st23⟩ := getF X22 hx hZ hown (host := "") (Or.inl (hw _ (List.mem_of_getElem? (i := 18) rfl))) Via.refl e22 o_runs_22 (g := (mkF m 10 #[.val (.ref a), .val (.ref tt), .val (.int (1 : Int32)), .val (.int ((0 : Int32) ||| (0 : Int32))), .val (.int (((0 : Int32) + (1 : Int32)) + (1 : Int32)))] [(.ref a), (.int (((0 : Int32) + (1 : Int32)) + (1 : Int32)))])) rfl rfl (hb hby d8_10)
    refine own_go st23 ?_
    show own_Go p e below _ (T23.setTop (mkF m 13 #[.val (.ref a), .val (.ref tt), .val (.int (1 : Int32)), .val (.int ((0 : Int32) ||| (0 : Int32))), .val (.int (((0 : Int32) + (1 : Int32)) + (1 : Int32)))] [(.ref rr), (.int (((0 : Int32) + (1 : Int32)) + (1 : Int32)))]))
    refine own_go (own_len X23 hx hZ e23 A22 (g := (mkF m 13 #[.val (.ref a), .val (.ref tt), .val (.int (1 : Int32)), .val (.int ((0 : Int32) ||| (0 : Int32))), .val (.int (((0 : Int32) + (1 : Int32)) + (1 : Int32)))] [(.ref rr), (.int (((0 : Int32) + (1 : Int32)) + (1 : Int32)))])) rfl rfl (hb hby d8_13) (3 : Int32) rfl) ?_
    show own_Go p e below _ (T23.setTop (mkF m 14 #[.val (.ref a), .val (.ref tt), .val (.int (1 : Int32)), .val (.int ((0 : Int32) ||| (0 : Int32))), .val (.int (((0 : Int32) + (1 : Int32)) + (1 : Int32)))] [(.int (3 : Int32)), (.int (((0 : Int32) + (1 : Int32)) + (1 : Int32)))]))
    refine own_go (fun _ => XS.icmpNo X23.here hx rfl (hb hby d8_14) rfl (XT.ii_ge_f (by decide))) ?_
    show own_Go p e below _ (T23.setTop (mkF m 17 #[.val (.ref a), .val (.ref tt), .val (.int (1 : Int32)), .val (.int ((0 : Int32) ||| (0 : Int32))), .val (.int (((0 : Int32) + (1 : Int32)) + (1 : Int32)))] []))
    refine own_go (fun _ => XS.aloadN X23.here hx rfl (hb hby d8_17) rfl rfl) ?_
    show own_Go p e below _ (T23.setTop (mkF m 18 #[.val (.ref a), .val (.ref tt), .val (.int (1 : Int32)), .val (.int ((0 : Int32) ||| (0 : Int32))), .val (.int (((0 : Int32) + (1 : Int32)) + (1 : Int32)))] [(.ref tt)]))
    refine own_go (fun _ => XS.iload X23.here hx rfl (hb hby d8_18) rfl) ?_
    show own_Go p e below _ (T23.setTop (mkF m 20 #[.val (.ref a), .val (.ref tt), .val (.int (1 : Int32)), .val (.int ((0 : Int32) ||| (0 : Int32))), .val (.int (((0 : Int32) + (1 : Int32)) + (1 : Int32)))] [(.int (((0 : Int32) + (1 : Int32)) + (1 : Int32))), (.ref tt)]))
    refine own_go (own_ldJ X23 hx hZ e23 t_A_22 (g := (mkF m 20 #[.val (.ref a), .val (.ref tt), .val (.int (1 : Int32)), .val (.int ((0 : Int32) ||| (0 : Int32))), .val (.int (((0 : Int32) + (1 : Int32)) + (1 : Int32)))] [(.int (((0 : Int32) + (1 : Int32)) + (1 : Int32))), (.ref tt)])) rfl rfl (hb hby d8_20) 2 (by decide) (x := (.long y1)) rfl) ?_
    show own_Go p e below _ (T23.setTop (mkF m 21 #[.val (.ref a), .val (.ref tt), .val (.int (1 : Int32)), .val (.int ((0 : Int32) ||| (0 : Int32))), .val (.int (((0 : Int32) + (1 : Int32)) + (1 : Int32)))] [(.long y1)]))
    refine own_go (fun _ => XT.lconst X23.here hx rfl (hb hby d8_21)) ?_
    show own_Go p e below _ (T23.setTop (mkF m 22 #[.val (.ref a), .val (.ref tt), .val (.int (1 : Int32)), .val (.int ((0 : Int32) ||| (0 : Int32))), .val (.int (((0 : Int32) + (1 : Int32)) + (1 : Int32)))] [(.long (0 : Int64)), (.long y1)]))
    refine own_go (fun _ => XT.lcmp X23.here hx rfl (hb hby d8_22) rfl) ?_
    show own_Go p e below _ (T23.setTop (mkF m 23 #[.val (.ref a), .val (.ref tt), .val (.int (1 : Int32)), .val (.int ((0 : Int32) ||| (0 : Int32))), .val (.int (((0 : Int32) + (1 : Int32)) + (1 : Int32)))] [(.int (XT.cmpL y1 (0 : Int64)))]))
    by_cases hz1 : y1 = (0 : Int64)
    · skip
      refine own_go (fun _ => XS.ifYes X23.here hx rfl (pc0 := 23) (pc' := 86) rfl (hb hby d8_23) rfl (XT.ll_eq_t hz1) (by decide) (by decide)) ?_
      show own_Go p e below _ (T23.setTop (mkF m 86 #[.val (.ref a), .val (.ref tt), .val (.int (1 : Int32)), .val (.int ((0 : Int32) ||| (0 : Int32))), .val (.int (((0 : Int32) + (1 : Int32)) + (1 : Int32)))] []))
      refine own_go (fun _ => XT.iincV X23.here hx rfl (1 : Int32) (hb hby d8_86) rfl rfl (l' := #[.val (.ref a), .val (.ref tt), .val (.int (1 : Int32)), .val (.int ((0 : Int32) ||| (0 : Int32))), .val (.int ((((0 : Int32) + (1 : Int32)) + (1 : Int32)) + (1 : Int32)))]) rfl) ?_
      show own_Go p e below _ (T23.setTop (mkF m 89 #[.val (.ref a), .val (.ref tt), .val (.int (1 : Int32)), .val (.int ((0 : Int32) ||| (0 : Int32))), .val (.int ((((0 : Int32) + (1 : Int32)) + (1 : Int32)) + (1 : Int32)))] []))
      refine own_go (fun _ => XS.goto X23.here hx rfl (pc0 := 89) (pc' := 7) rfl (hb hby d8_89) (by decide) (by decide)) ?_
      show own_Go p e below _ (T23.setTop (mkF m 7 #[.val (.ref a), .val (.ref tt), .val (.int (1 : Int32)), .val (.int ((0 : Int32) ||| (0 : Int32))), .val (.int ((((0 : Int32) + (1 : Int32)) + (1 : Int32)) + (1 : Int32)))] []))
      refine own_go (fun _ => XS.iload X23.here hx rfl (hb hby d8_7) rfl) ?_
      show own_Go p e below _ (T23.setTop (mkF m 9 #[.val (.ref a), .val (.ref tt), .val (.int (1 : Int32)), .val (.int ((0 : Int32) ||| (0 : Int32))), .val (.int ((((0 : Int32) + (1 : Int32)) + (1 : Int32)) + (1 : Int32)))] [(.int ((((0 : Int32) + (1 : Int32)) + (1 : Int32)) + (1 : Int32)))]))
      refine own_go (fun _ => XS.aloadN X23.here hx rfl (hb hby d8_9) rfl rfl) ?_
      show own_Go p e below _ (T23.setTop (mkF m 10 #[.val (.ref a), .val (.ref tt), .val (.int (1 : Int32)), .val (.int ((0 : Int32) ||| (0 : Int32))), .val (.int ((((0 : Int32) + (1 : Int32)) + (1 : Int32)) + (1 : Int32)))] [(.ref a), (.int ((((0 : Int32) + (1 : Int32)) + (1 : Int32)) + (1 : Int32)))]))
      obtain ⟨T24, X24, e24, st24⟩ := getF X23 hx hZ hown (host := "") (Or.inl (hw _ (List.mem_of_getElem? (i := 18) rfl))) Via.refl e23 o_runs_22 (g := (mkF m 10 #[.val (.ref a), .val (.ref tt), .val (.int (1 : Int32)), .val (.int ((0 : Int32) ||| (0 : Int32))), .val (.int ((((0 : Int32) + (1 : Int32)) + (1 : Int32)) + (1 : Int32)))] [(.ref a), (.int ((((0 : Int32) + (1 : Int32)) + (1 : Int32)) + (1 : Int32)))])) rfl rfl (hb hby d8_10)
      refine own_go st24 ?_
      show own_Go p e below _ (T24.setTop (mkF m 13 #[.val (.ref a), .val (.ref tt), .val (.int (1 : Int32)), .val (.int ((0 : Int32) ||| (0 : Int32))), .val (.int ((((0 : Int32) + (1 : Int32)) + (1 : Int32)) + (1 : Int32)))] [(.ref rr), (.int ((((0 : Int32) + (1 : Int32)) + (1 : Int32)) + (1 : Int32)))]))
      refine own_go (own_len X24 hx hZ e24 A22 (g := (mkF m 13 #[.val (.ref a), .val (.ref tt), .val (.int (1 : Int32)), .val (.int ((0 : Int32) ||| (0 : Int32))), .val (.int ((((0 : Int32) + (1 : Int32)) + (1 : Int32)) + (1 : Int32)))] [(.ref rr), (.int ((((0 : Int32) + (1 : Int32)) + (1 : Int32)) + (1 : Int32)))])) rfl rfl (hb hby d8_13) (3 : Int32) rfl) ?_
      show own_Go p e below _ (T24.setTop (mkF m 14 #[.val (.ref a), .val (.ref tt), .val (.int (1 : Int32)), .val (.int ((0 : Int32) ||| (0 : Int32))), .val (.int ((((0 : Int32) + (1 : Int32)) + (1 : Int32)) + (1 : Int32)))] [(.int (3 : Int32)), (.int ((((0 : Int32) + (1 : Int32)) + (1 : Int32)) + (1 : Int32)))]))
      refine own_go (fun _ => XS.icmpYes X24.here hx rfl (pc0 := 14) (pc' := 92) rfl (hb hby d8_14) rfl (XT.ii_ge_t (by decide)) (by decide) (by decide)) ?_
      show own_Go p e below _ (T24.setTop (mkF m 92 #[.val (.ref a), .val (.ref tt), .val (.int (1 : Int32)), .val (.int ((0 : Int32) ||| (0 : Int32))), .val (.int ((((0 : Int32) + (1 : Int32)) + (1 : Int32)) + (1 : Int32)))] []))
      refine own_go (fun _ => XS.iloadN X24.here hx rfl (hb hby d8_92) rfl) ?_
      show own_Go p e below _ (T24.setTop (mkF m 93 #[.val (.ref a), .val (.ref tt), .val (.int (1 : Int32)), .val (.int ((0 : Int32) ||| (0 : Int32))), .val (.int ((((0 : Int32) + (1 : Int32)) + (1 : Int32)) + (1 : Int32)))] [(.int ((0 : Int32) ||| (0 : Int32)))]))
      refine own_go (fun _ => XS.ifYes X24.here hx rfl (pc0 := 93) (pc' := 101) rfl (hb hby d8_93) rfl (XT.i0_eq_t (by decide)) (by decide) (by decide)) ?_
      show own_Go p e below _ (T24.setTop (mkF m 101 #[.val (.ref a), .val (.ref tt), .val (.int (1 : Int32)), .val (.int ((0 : Int32) ||| (0 : Int32))), .val (.int ((((0 : Int32) + (1 : Int32)) + (1 : Int32)) + (1 : Int32)))] []))
      refine own_go (fun _ => XS.iloadN X24.here hx rfl (hb hby d8_101) rfl) ?_
      show own_Go p e below _ (T24.setTop (mkF m 102 #[.val (.ref a), .val (.ref tt), .val (.int (1 : Int32)), .val (.int ((0 : Int32) ||| (0 : Int32))), .val (.int ((((0 : Int32) + (1 : Int32)) + (1 : Int32)) + (1 : Int32)))] [(.int (1 : Int32))]))
      refine own_go (fun _ => XS.ifNo X24.here hx rfl (hb hby d8_102) rfl (XT.i0_eq_f (by decide))) ?_
      show own_Go p e below _ (T24.setTop (mkF m 105 #[.val (.ref a), .val (.ref tt), .val (.int (1 : Int32)), .val (.int ((0 : Int32) ||| (0 : Int32))), .val (.int ((((0 : Int32) + (1 : Int32)) + (1 : Int32)) + (1 : Int32)))] []))
      refine own_go (fun _ => XS.aloadN X24.here hx rfl (hb hby d8_105) rfl rfl) ?_
      show own_Go p e below _ (T24.setTop (mkF m 106 #[.val (.ref a), .val (.ref tt), .val (.int (1 : Int32)), .val (.int ((0 : Int32) ||| (0 : Int32))), .val (.int ((((0 : Int32) + (1 : Int32)) + (1 : Int32)) + (1 : Int32)))] [(.ref a)]))
      obtain ⟨T25, X25, e25, st25⟩ := getF X24 hx hZ hown (host := "") (Or.inl (hw _ (List.mem_of_getElem? (i := 20) rfl))) Via.refl e24 o_marks_22 (g := (mkF m 106 #[.val (.ref a), .val (.ref tt), .val (.int (1 : Int32)), .val (.int ((0 : Int32) ||| (0 : Int32))), .val (.int ((((0 : Int32) + (1 : Int32)) + (1 : Int32)) + (1 : Int32)))] [(.ref a)])) rfl rfl (hb hby d8_106)
      refine own_go st25 ?_
      show own_Go p e below _ (T25.setTop (mkF m 109 #[.val (.ref a), .val (.ref tt), .val (.int (1 : Int32)), .val (.int ((0 : Int32) ||| (0 : Int32))), .val (.int ((((0 : Int32) + (1 : Int32)) + (1 : Int32)) + (1 : Int32)))] [(.ref mm)]))
      refine own_go (fun _ => XS.aloadN X25.here hx rfl (hb hby d8_109) rfl rfl) ?_
      show own_Go p e below _ (T25.setTop (mkF m 110 #[.val (.ref a), .val (.ref tt), .val (.int (1 : Int32)), .val (.int ((0 : Int32) ||| (0 : Int32))), .val (.int ((((0 : Int32) + (1 : Int32)) + (1 : Int32)) + (1 : Int32)))] [(.ref a), (.ref mm)]))
      refine own_go (fun _ => XS.dup X25.here hx rfl (hb hby d8_110) rfl rfl) ?_
      show own_Go p e below _ (T25.setTop (mkF m 111 #[.val (.ref a), .val (.ref tt), .val (.int (1 : Int32)), .val (.int ((0 : Int32) ||| (0 : Int32))), .val (.int ((((0 : Int32) + (1 : Int32)) + (1 : Int32)) + (1 : Int32)))] [(.ref a), (.ref a), (.ref mm)]))
      obtain ⟨T26, X26, e26, st26⟩ := getF X25 hx hZ hown (host := "") (Or.inl (hw _ (List.mem_of_getElem? (i := 22) rfl))) Via.refl e25 o_marked_22 (g := (mkF m 111 #[.val (.ref a), .val (.ref tt), .val (.int (1 : Int32)), .val (.int ((0 : Int32) ||| (0 : Int32))), .val (.int ((((0 : Int32) + (1 : Int32)) + (1 : Int32)) + (1 : Int32)))] [(.ref a), (.ref a), (.ref mm)])) rfl rfl (hb hby d8_111)
      refine own_go st26 ?_
      show own_Go p e below _ (T26.setTop (mkF m 114 #[.val (.ref a), .val (.ref tt), .val (.int (1 : Int32)), .val (.int ((0 : Int32) ||| (0 : Int32))), .val (.int ((((0 : Int32) + (1 : Int32)) + (1 : Int32)) + (1 : Int32)))] [(.int (1 : Int32)), (.ref a), (.ref mm)]))
      refine own_go (fun _ => XT.dupX1 X26.here hx rfl (hb hby d8_114) rfl rfl rfl) ?_
      show own_Go p e below _ (T26.setTop (mkF m 115 #[.val (.ref a), .val (.ref tt), .val (.int (1 : Int32)), .val (.int ((0 : Int32) ||| (0 : Int32))), .val (.int ((((0 : Int32) + (1 : Int32)) + (1 : Int32)) + (1 : Int32)))] [(.int (1 : Int32)), (.ref a), (.int (1 : Int32)), (.ref mm)]))
      refine own_go (fun _ => XS.iconst X26.here hx rfl (hb hby d8_115)) ?_
      show own_Go p e below _ (T26.setTop (mkF m 116 #[.val (.ref a), .val (.ref tt), .val (.int (1 : Int32)), .val (.int ((0 : Int32) ||| (0 : Int32))), .val (.int ((((0 : Int32) + (1 : Int32)) + (1 : Int32)) + (1 : Int32)))] [(.int (1 : Int32)), (.int (1 : Int32)), (.ref a), (.int (1 : Int32)), (.ref mm)]))
      refine own_go (fun _ => XS.iadd X26.here hx rfl (hb hby d8_116) rfl) ?_
      show own_Go p e below _ (T26.setTop (mkF m 117 #[.val (.ref a), .val (.ref tt), .val (.int (1 : Int32)), .val (.int ((0 : Int32) ||| (0 : Int32))), .val (.int ((((0 : Int32) + (1 : Int32)) + (1 : Int32)) + (1 : Int32)))] [(.int ((1 : Int32) + (1 : Int32))), (.ref a), (.int (1 : Int32)), (.ref mm)]))
      obtain ⟨T27, h27, X27, e27, W27, st27⟩ := putF X26 hx hZ hown (host := "") (Or.inl (hw _ (List.mem_of_getElem? (i := 22) rfl))) Via.refl e26 o_marked_22 o_E_22 (Or.inl (hw _ (List.mem_of_getElem? (i := 23) rfl))) (hw _ (List.mem_of_getElem? (i := 8) rfl)) (ty := .int) (by decide) rfl rfl (g := (mkF m 117 #[.val (.ref a), .val (.ref tt), .val (.int (1 : Int32)), .val (.int ((0 : Int32) ||| (0 : Int32))), .val (.int ((((0 : Int32) + (1 : Int32)) + (1 : Int32)) + (1 : Int32)))] [(.int ((1 : Int32) + (1 : Int32))), (.ref a), (.int (1 : Int32)), (.ref mm)])) rfl rfl (hb hby d8_117)
      have N27 := Fr.snoc X27 N22 ga
      have o_E_27 := o_E_22.wr W27
      have r_E_27 := r_E_22.wr W27
      have o_self_27 := o_self_22.other W27 (Or.inr (slot_ne (t := .int) (t' := .int) (Or.inr (hw _ (List.mem_of_getElem? (i := 17) rfl))) (Or.inl (hw _ (List.mem_of_getElem? (i := 23) rfl))) (by decide) (by decide) (by decide)))
      have o_runs_27 := o_runs_22.other W27 (Or.inr (slot_ne (t := (.array .long)) (t' := .int) (Or.inr (hw _ (List.mem_of_getElem? (i := 19) rfl))) (Or.inl (hw _ (List.mem_of_getElem? (i := 23) rfl))) (by decide) (by decide) (by decide)))
      have o_marks_27 := o_marks_22.other W27 (Or.inr (slot_ne (t := (.array .long)) (t' := .int) (Or.inr (hw _ (List.mem_of_getElem? (i := 21) rfl))) (Or.inl (hw _ (List.mem_of_getElem? (i := 23) rfl))) (by decide) (by decide) (by decide)))
      have o_marked_27 := o_marked_22.same W27
      have o_heard_27 := o_heard_22.other W27 (Or.inr (slot_ne (t := (.array .long)) (t' := .int) (Or.inr (hw _ (List.mem_of_getElem? (i := 34) rfl))) (Or.inl (hw _ (List.mem_of_getElem? (i := 23) rfl))) (by decide) (by decide) (by decide)))
      have o_preceded_27 := o_preceded_22.other W27 (Or.inr (slot_ne (t := .boolean) (t' := .int) (Or.inl (hw _ (List.mem_of_getElem? (i := 41) rfl))) (Or.inl (hw _ (List.mem_of_getElem? (i := 23) rfl))) (by decide) (by decide) (by decide)))
      have o_chosen_27 := o_chosen_22.other W27 (Or.inr (slot_ne (t := .boolean) (t' := .int) (Or.inl (hw _ (List.mem_of_getElem? (i := 43) rfl))) (Or.inl (hw _ (List.mem_of_getElem? (i := 23) rfl))) (by decide) (by decide) (by decide)))
      have r_A_27 := A22.other W27 (Ne.symm ne_a_rr)
      have m_A_27 := m_A_22.other W27 (Ne.symm ne_a_mm)
      have h_A_27 := h_A_22.other W27 (Ne.symm ne_a_hh)
      have t_A_27 := t_A_22.other W27 (Ne.symm ne_a_tt)
      have K27 := K22.wr W27 (Or.inl (List.mem_of_getElem? (i := 0) rfl))
      refine own_go st27 ?_
      show own_Go p e below _ (T27.setTop (mkF m 120 #[.val (.ref a), .val (.ref tt), .val (.int (1 : Int32)), .val (.int ((0 : Int32) ||| (0 : Int32))), .val (.int ((((0 : Int32) + (1 : Int32)) + (1 : Int32)) + (1 : Int32)))] [(.int (1 : Int32)), (.ref mm)]))
      refine own_go (fun _ => XS.aloadN X27.here hx rfl (hb hby d8_120) rfl rfl) ?_
      show own_Go p e below _ (T27.setTop (mkF m 121 #[.val (.ref a), .val (.ref tt), .val (.int (1 : Int32)), .val (.int ((0 : Int32) ||| (0 : Int32))), .val (.int ((((0 : Int32) + (1 : Int32)) + (1 : Int32)) + (1 : Int32)))] [(.ref a), (.int (1 : Int32)), (.ref mm)]))
      obtain ⟨T28, X28, e28, st28⟩ := getF X27 hx hZ hown (host := "") (Or.inl (hw _ (List.mem_of_getElem? (i := 18) rfl))) Via.refl e27 o_runs_27 (g := (mkF m 121 #[.val (.ref a), .val (.ref tt), .val (.int (1 : Int32)), .val (.int ((0 : Int32) ||| (0 : Int32))), .val (.int ((((0 : Int32) + (1 : Int32)) + (1 : Int32)) + (1 : Int32)))] [(.ref a), (.int (1 : Int32)), (.ref mm)])) rfl rfl (hb hby d8_121)
      refine own_go st28 ?_
      show own_Go p e below _ (T28.setTop (mkF m 124 #[.val (.ref a), .val (.ref tt), .val (.int (1 : Int32)), .val (.int ((0 : Int32) ||| (0 : Int32))), .val (.int ((((0 : Int32) + (1 : Int32)) + (1 : Int32)) + (1 : Int32)))] [(.ref rr), (.int (1 : Int32)), (.ref mm)]))
      have r_Ax : own_AV Z h27 rr .long [.long r0, .long y0, .long 0] := r_A_27
      obtain ⟨_, T29, L29, X29, ⟨rfl, eh29, rfl⟩, st29⟩ := own_callS X28 hx hZ hown (argsL := [(.ref rr)]) (rest := [(.int (1 : Int32)), (.ref mm)]) (own_markOf_con l Z a0 hw rr r0 y0 0 h27 r_Ax []) e28 (hw _ (List.mem_of_getElem? (i := 24) rfl)) (hw _ (List.mem_of_getElem? (i := 25) rfl)) (hw _ (List.mem_of_getElem? (i := 9) rfl)) (hw _ (List.mem_of_getElem? (i := 26) rfl)) (by decide) (by decide +kernel : parseMethodDescriptor "([J)J" = some ⟨[(.array .long)], some .long⟩) rfl (g := (mkF m 124 #[.val (.ref a), .val (.ref tt), .val (.int (1 : Int32)), .val (.int ((0 : Int32) ||| (0 : Int32))), .val (.int ((((0 : Int32) + (1 : Int32)) + (1 : Int32)) + (1 : Int32)))] [(.ref rr), (.int (1 : Int32)), (.ref mm)])) rfl (by rw [hml]; rfl) rfl 2 (by show 2 * 0 + _ ≤ _; exact Nat.le_of_eq rfl) (hb hby d8_124) (by decide) (by decide) (by decide) (by decide)
      rw [List.append_nil] at X29
      refine own_go st29 ?_
      show own_Go p e below _ (T29.setTop (mkF m 127 #[.val (.ref a), .val (.ref tt), .val (.int (1 : Int32)), .val (.int ((0 : Int32) ||| (0 : Int32))), .val (.int ((((0 : Int32) + (1 : Int32)) + (1 : Int32)) + (1 : Int32)))] [(.long (own_mark r0 y0 0)), (.int (1 : Int32)), (.ref mm)]))
      obtain ⟨T30, h30, X30, e30, W30, A30, st30⟩ := own_stJ X29 hx hZ eh29 m_A_27 (g := (mkF m 127 #[.val (.ref a), .val (.ref tt), .val (.int (1 : Int32)), .val (.int ((0 : Int32) ||| (0 : Int32))), .val (.int ((((0 : Int32) + (1 : Int32)) + (1 : Int32)) + (1 : Int32)))] [(.long (own_mark r0 y0 0)), (.int (1 : Int32)), (.ref mm)])) rfl rfl (hb hby d8_127) 1 (by decide) (by simp)
      have N30 := Fr.snoc X30 N27 gm
      have o_E_30 := o_E_27.wr W30
      have r_E_30 := r_E_27.wr W30
      have o_self_30 := o_self_27.other W30 (Or.inl ne_a_mm)
      have o_runs_30 := o_runs_27.other W30 (Or.inl ne_a_mm)
      have o_marks_30 := o_marks_27.other W30 (Or.inl ne_a_mm)
      have o_marked_30 := o_marked_27.other W30 (Or.inl ne_a_mm)
      have o_heard_30 := o_heard_27.other W30 (Or.inl ne_a_mm)
      have o_preceded_30 := o_preceded_27.other W30 (Or.inl ne_a_mm)
      have o_chosen_30 := o_chosen_27.other W30 (Or.inl ne_a_mm)
      have r_A_30 := r_Ax.other W30 ne_rr_mm
      have h_A_30 := h_A_27.other W30 (Ne.symm ne_mm_hh)
      have t_A_30 := t_A_27.other W30 ne_tt_mm
      have K30 := K27.wr W30 (Or.inl (List.mem_of_getElem? (i := 2) rfl))
      refine own_go st30 ?_
      show own_Go p e below _ (T30.setTop (mkF m 128 #[.val (.ref a), .val (.ref tt), .val (.int (1 : Int32)), .val (.int ((0 : Int32) ||| (0 : Int32))), .val (.int ((((0 : Int32) + (1 : Int32)) + (1 : Int32)) + (1 : Int32)))] []))
      refine own_go (fun _ => XS.aloadN X30.here hx rfl (hb hby d8_128) rfl rfl) ?_
      show own_Go p e below _ (T30.setTop (mkF m 129 #[.val (.ref a), .val (.ref tt), .val (.int (1 : Int32)), .val (.int ((0 : Int32) ||| (0 : Int32))), .val (.int ((((0 : Int32) + (1 : Int32)) + (1 : Int32)) + (1 : Int32)))] [(.ref a)]))
      refine own_go (fun _ => XS.dup X30.here hx rfl (hb hby d8_129) rfl rfl) ?_
      show own_Go p e below _ (T30.setTop (mkF m 130 #[.val (.ref a), .val (.ref tt), .val (.int (1 : Int32)), .val (.int ((0 : Int32) ||| (0 : Int32))), .val (.int ((((0 : Int32) + (1 : Int32)) + (1 : Int32)) + (1 : Int32)))] [(.ref a), (.ref a)]))
      obtain ⟨T31, X31, e31, st31⟩ := getF X30 hx hZ hown (host := "") (Or.inl (hw _ (List.mem_of_getElem? (i := 42) rfl))) Via.refl e30 o_chosen_30 (g := (mkF m 130 #[.val (.ref a), .val (.ref tt), .val (.int (1 : Int32)), .val (.int ((0 : Int32) ||| (0 : Int32))), .val (.int ((((0 : Int32) + (1 : Int32)) + (1 : Int32)) + (1 : Int32)))] [(.ref a), (.ref a)])) rfl rfl (hb hby d8_130)
      refine own_go st31 ?_
      show own_Go p e below _ (T31.setTop (mkF m 133 #[.val (.ref a), .val (.ref tt), .val (.int (1 : Int32)), .val (.int ((0 : Int32) ||| (0 : Int32))), .val (.int ((((0 : Int32) + (1 : Int32)) + (1 : Int32)) + (1 : Int32)))] [(.int (0 : Int32)), (.ref a)]))
      refine own_go (fun _ => XS.aloadN X31.here hx rfl (hb hby d8_133) rfl rfl) ?_
      show own_Go p e below _ (T31.setTop (mkF m 134 #[.val (.ref a), .val (.ref tt), .val (.int (1 : Int32)), .val (.int ((0 : Int32) ||| (0 : Int32))), .val (.int ((((0 : Int32) + (1 : Int32)) + (1 : Int32)) + (1 : Int32)))] [(.ref a), (.int (0 : Int32)), (.ref a)]))
      have I1 : own_Runs Z h30 a rr mm hh [.long r0, .long y0, .long 0] [.long (own_mark r0 0 0), .long (own_mark r0 y0 0), .long 0] hs (1 + 1) pr 0 := ⟨⟨o_E_30, r_E_30, r_A_30, A30, h_A_30⟩, ⟨o_self_30, o_runs_30, o_marks_30, o_marked_30, o_heard_30, o_preceded_30, o_chosen_30⟩, ⟨ne_a_rr, ne_a_mm, ne_a_hh, ne_rr_mm, ne_rr_hh, ne_mm_hh⟩⟩
      obtain ⟨_, T32, L32, X32, ⟨rfl, eh32, rfl⟩, st32⟩ := own_callP X31 hx hZ hown (argsL := []) (rest := [(.int (0 : Int32)), (.ref a)]) (own_know_con l Z a0 hw a rr mm hh r0 y0 0 _ hs (1 + 1) pr 0 h30 I1 []) e31 o_E_30 (hw _ (List.mem_of_getElem? (i := 52) rfl)) (hw _ (List.mem_of_getElem? (i := 53) rfl)) (hw _ (List.mem_of_getElem? (i := 54) rfl)) (hw _ (List.mem_of_getElem? (i := 8) rfl)) (hw _ (List.mem_of_getElem? (i := 9) rfl)) (hw _ (List.mem_of_getElem? (i := 55) rfl)) (by decide) (by decide +kernel : parseMethodDescriptor "()Z" = some ⟨[], some .boolean⟩) rfl (g := (mkF m 134 #[.val (.ref a), .val (.ref tt), .val (.int (1 : Int32)), .val (.int ((0 : Int32) ||| (0 : Int32))), .val (.int ((((0 : Int32) + (1 : Int32)) + (1 : Int32)) + (1 : Int32)))] [(.ref a), (.int (0 : Int32)), (.ref a)])) rfl (by rw [hml]; rfl) rfl 2 (by show 2 * 0 + _ ≤ _; exact Nat.le_of_eq rfl) (hb hby d8_134) (by decide) (by decide) (by decide) (by decide)
      rw [List.append_nil] at X32
      refine own_go st32 ?_
      show own_Go p e below _ (T32.setTop (mkF m 137 #[.val (.ref a), .val (.ref tt), .val (.int (1 : Int32)), .val (.int ((0 : Int32) ||| (0 : Int32))), .val (.int ((((0 : Int32) + (1 : Int32)) + (1 : Int32)) + (1 : Int32)))] [(.int (own_know r0 y0 0)), (.int (0 : Int32)), (.ref a)]))
      refine own_go (fun _ => XT.ior X32.here hx rfl (hb hby d8_137) rfl) ?_
      show own_Go p e below _ (T32.setTop (mkF m 138 #[.val (.ref a), .val (.ref tt), .val (.int (1 : Int32)), .val (.int ((0 : Int32) ||| (0 : Int32))), .val (.int ((((0 : Int32) + (1 : Int32)) + (1 : Int32)) + (1 : Int32)))] [(.int ((0 : Int32) ||| (own_know r0 y0 0))), (.ref a)]))
      have hk : narrow .boolean (.int ((0 : Int32) ||| own_know r0 y0 0)) = .int ((0 : Int32) ||| own_know r0 y0 0) ∧ fits .boolean (.int ((0 : Int32) ||| own_know r0 y0 0)) = true := by
        rcases own_know01 r0 y0 0 with q | q <;> rw [q] <;> exact ⟨rfl, rfl⟩
      obtain ⟨T33, h33, X33, e33, W33, st33⟩ := putF X32 hx hZ hown (host := "") (Or.inl (hw _ (List.mem_of_getElem? (i := 42) rfl))) Via.refl eh32 o_chosen_30 o_E_30 (Or.inl (hw _ (List.mem_of_getElem? (i := 43) rfl))) (hw _ (List.mem_of_getElem? (i := 8) rfl)) (ty := .boolean) (by decide) hk.1 hk.2 (g := (mkF m 138 #[.val (.ref a), .val (.ref tt), .val (.int (1 : Int32)), .val (.int ((0 : Int32) ||| (0 : Int32))), .val (.int ((((0 : Int32) + (1 : Int32)) + (1 : Int32)) + (1 : Int32)))] [(.int ((0 : Int32) ||| (own_know r0 y0 0))), (.ref a)])) rfl rfl (hb hby d8_138)
      have N33 := Fr.snoc X33 N30 ga
      have o_E_33 := o_E_30.wr W33
      have r_E_33 := r_E_30.wr W33
      have o_self_33 := o_self_30.other W33 (Or.inr (slot_ne (t := .int) (t' := .boolean) (Or.inr (hw _ (List.mem_of_getElem? (i := 17) rfl))) (Or.inl (hw _ (List.mem_of_getElem? (i := 43) rfl))) (by decide) (by decide) (by decide)))
      have o_runs_33 := o_runs_30.other W33 (Or.inr (slot_ne (t := (.array .long)) (t' := .boolean) (Or.inr (hw _ (List.mem_of_getElem? (i := 19) rfl))) (Or.inl (hw _ (List.mem_of_getElem? (i := 43) rfl))) (by decide) (by decide) (by decide)))
      have o_marks_33 := o_marks_30.other W33 (Or.inr (slot_ne (t := (.array .long)) (t' := .boolean) (Or.inr (hw _ (List.mem_of_getElem? (i := 21) rfl))) (Or.inl (hw _ (List.mem_of_getElem? (i := 43) rfl))) (by decide) (by decide) (by decide)))
      have o_marked_33 := o_marked_30.other W33 (Or.inr (slot_ne (t := .int) (t' := .boolean) (Or.inl (hw _ (List.mem_of_getElem? (i := 23) rfl))) (Or.inl (hw _ (List.mem_of_getElem? (i := 43) rfl))) (by decide) (by decide) (by decide)))
      have o_heard_33 := o_heard_30.other W33 (Or.inr (slot_ne (t := (.array .long)) (t' := .boolean) (Or.inr (hw _ (List.mem_of_getElem? (i := 34) rfl))) (Or.inl (hw _ (List.mem_of_getElem? (i := 43) rfl))) (by decide) (by decide) (by decide)))
      have o_preceded_33 := o_preceded_30.other W33 (Or.inr (slot_ne (t := .boolean) (t' := .boolean) (Or.inl (hw _ (List.mem_of_getElem? (i := 41) rfl))) (Or.inl (hw _ (List.mem_of_getElem? (i := 43) rfl))) (by decide) (by decide) (by decide)))
      have o_chosen_33 := o_chosen_30.same W33
      have r_A_33 := r_A_30.other W33 (Ne.symm ne_a_rr)
      have m_A_33 := A30.other W33 (Ne.symm ne_a_mm)
      have h_A_33 := h_A_30.other W33 (Ne.symm ne_a_hh)
      have t_A_33 := t_A_30.other W33 (Ne.symm ne_a_tt)
      have K33 := K30.wr W33 (Or.inl (List.mem_of_getElem? (i := 0) rfl))
      refine own_go st33 ?_
      show own_Go p e below _ (T33.setTop (mkF m 141 #[.val (.ref a), .val (.ref tt), .val (.int (1 : Int32)), .val (.int ((0 : Int32) ||| (0 : Int32))), .val (.int ((((0 : Int32) + (1 : Int32)) + (1 : Int32)) + (1 : Int32)))] []))
      have r_Az : own_AV Z h33 rr .long [.long r0, .long y0, .long y1] := by
        have q : own_AV Z h33 rr .long [.long r0, .long y0, .long 0] := r_A_33
        rw [hz1]; exact q
      exact own_vret X33 hx hlk hret (hb hby d8_141) (by decide) (by decide) (by rw [e33]; exact ⟨rfl, N33, K33, _, _, _, 1, ⟨⟨o_E_33, r_E_33, r_Az, m_A_33, h_A_33⟩, ⟨o_self_33, o_runs_33, o_marks_33, o_marked_33, o_heard_33, o_preceded_33, o_chosen_33⟩, ⟨ne_a_rr, ne_a_mm, ne_a_hh, ne_rr_mm, ne_rr_hh, ne_mm_hh⟩⟩, by decide, ⟨_, rfl, (own_mark_ne r0 y0 0)⟩, rfl⟩)
    · skip
      refine own_go (fun _ => XS.ifNo X23.here hx rfl (hb hby d8_23) rfl (XT.ll_eq_f hz1)) ?_
      show own_Go p e below _ (T23.setTop (mkF m 26 #[.val (.ref a), .val (.ref tt), .val (.int (1 : Int32)), .val (.int ((0 : Int32) ||| (0 : Int32))), .val (.int (((0 : Int32) + (1 : Int32)) + (1 : Int32)))] []))
      refine own_go (fun _ => XS.aloadN X23.here hx rfl (hb hby d8_26) rfl rfl) ?_
      show own_Go p e below _ (T23.setTop (mkF m 27 #[.val (.ref a), .val (.ref tt), .val (.int (1 : Int32)), .val (.int ((0 : Int32) ||| (0 : Int32))), .val (.int (((0 : Int32) + (1 : Int32)) + (1 : Int32)))] [(.ref a)]))
      obtain ⟨T34, X34, e34, st34⟩ := getF X23 hx hZ hown (host := "") (Or.inl (hw _ (List.mem_of_getElem? (i := 18) rfl))) Via.refl e23 o_runs_22 (g := (mkF m 27 #[.val (.ref a), .val (.ref tt), .val (.int (1 : Int32)), .val (.int ((0 : Int32) ||| (0 : Int32))), .val (.int (((0 : Int32) + (1 : Int32)) + (1 : Int32)))] [(.ref a)])) rfl rfl (hb hby d8_27)
      refine own_go st34 ?_
      show own_Go p e below _ (T34.setTop (mkF m 30 #[.val (.ref a), .val (.ref tt), .val (.int (1 : Int32)), .val (.int ((0 : Int32) ||| (0 : Int32))), .val (.int (((0 : Int32) + (1 : Int32)) + (1 : Int32)))] [(.ref rr)]))
      refine own_go (fun _ => XS.iload X34.here hx rfl (hb hby d8_30) rfl) ?_
      show own_Go p e below _ (T34.setTop (mkF m 32 #[.val (.ref a), .val (.ref tt), .val (.int (1 : Int32)), .val (.int ((0 : Int32) ||| (0 : Int32))), .val (.int (((0 : Int32) + (1 : Int32)) + (1 : Int32)))] [(.int (((0 : Int32) + (1 : Int32)) + (1 : Int32))), (.ref rr)]))
      refine own_go (own_ldJ X34 hx hZ e34 A22 (g := (mkF m 32 #[.val (.ref a), .val (.ref tt), .val (.int (1 : Int32)), .val (.int ((0 : Int32) ||| (0 : Int32))), .val (.int (((0 : Int32) + (1 : Int32)) + (1 : Int32)))] [(.int (((0 : Int32) + (1 : Int32)) + (1 : Int32))), (.ref rr)])) rfl rfl (hb hby d8_32) 2 (by decide) (x := (.long (0 : Int64))) rfl) ?_
      show own_Go p e below _ (T34.setTop (mkF m 33 #[.val (.ref a), .val (.ref tt), .val (.int (1 : Int32)), .val (.int ((0 : Int32) ||| (0 : Int32))), .val (.int (((0 : Int32) + (1 : Int32)) + (1 : Int32)))] [(.long (0 : Int64))]))
      refine own_go (fun _ => XT.lconst X34.here hx rfl (hb hby d8_33)) ?_
      show own_Go p e below _ (T34.setTop (mkF m 34 #[.val (.ref a), .val (.ref tt), .val (.int (1 : Int32)), .val (.int ((0 : Int32) ||| (0 : Int32))), .val (.int (((0 : Int32) + (1 : Int32)) + (1 : Int32)))] [(.long (0 : Int64)), (.long (0 : Int64))]))
      refine own_go (fun _ => XT.lcmp X34.here hx rfl (hb hby d8_34) rfl) ?_
      show own_Go p e below _ (T34.setTop (mkF m 35 #[.val (.ref a), .val (.ref tt), .val (.int (1 : Int32)), .val (.int ((0 : Int32) ||| (0 : Int32))), .val (.int (((0 : Int32) + (1 : Int32)) + (1 : Int32)))] [(.int (XT.cmpL (0 : Int64) (0 : Int64)))]))
      refine own_go (fun _ => XS.ifYes X34.here hx rfl (pc0 := 35) (pc' := 53) rfl (hb hby d8_35) rfl (XT.ll_eq_t (by decide)) (by decide) (by decide)) ?_
      show own_Go p e below _ (T34.setTop (mkF m 53 #[.val (.ref a), .val (.ref tt), .val (.int (1 : Int32)), .val (.int ((0 : Int32) ||| (0 : Int32))), .val (.int (((0 : Int32) + (1 : Int32)) + (1 : Int32)))] []))
      refine own_go (fun _ => XS.iloadN X34.here hx rfl (hb hby d8_53) rfl) ?_
      show own_Go p e below _ (T34.setTop (mkF m 54 #[.val (.ref a), .val (.ref tt), .val (.int (1 : Int32)), .val (.int ((0 : Int32) ||| (0 : Int32))), .val (.int (((0 : Int32) + (1 : Int32)) + (1 : Int32)))] [(.int ((0 : Int32) ||| (0 : Int32)))]))
      refine own_go (fun _ => XS.aloadN X34.here hx rfl (hb hby d8_54) rfl rfl) ?_
      show own_Go p e below _ (T34.setTop (mkF m 55 #[.val (.ref a), .val (.ref tt), .val (.int (1 : Int32)), .val (.int ((0 : Int32) ||| (0 : Int32))), .val (.int (((0 : Int32) + (1 : Int32)) + (1 : Int32)))] [(.ref a), (.int ((0 : Int32) ||| (0 : Int32)))]))
      obtain ⟨T35, X35, e35, st35⟩ := getF X34 hx hZ hown (host := "") (Or.inl (hw _ (List.mem_of_getElem? (i := 18) rfl))) Via.refl e34 o_runs_22 (g := (mkF m 55 #[.val (.ref a), .val (.ref tt), .val (.int (1 : Int32)), .val (.int ((0 : Int32) ||| (0 : Int32))), .val (.int (((0 : Int32) + (1 : Int32)) + (1 : Int32)))] [(.ref a), (.int ((0 : Int32) ||| (0 : Int32)))])) rfl rfl (hb hby d8_55)
      refine own_go st35 ?_
      show own_Go p e below _ (T35.setTop (mkF m 58 #[.val (.ref a), .val (.ref tt), .val (.int (1 : Int32)), .val (.int ((0 : Int32) ||| (0 : Int32))), .val (.int (((0 : Int32) + (1 : Int32)) + (1 : Int32)))] [(.ref rr), (.int ((0 : Int32) ||| (0 : Int32)))]))
      refine own_go (fun _ => XS.iload X35.here hx rfl (hb hby d8_58) rfl) ?_
      show own_Go p e below _ (T35.setTop (mkF m 60 #[.val (.ref a), .val (.ref tt), .val (.int (1 : Int32)), .val (.int ((0 : Int32) ||| (0 : Int32))), .val (.int (((0 : Int32) + (1 : Int32)) + (1 : Int32)))] [(.int (((0 : Int32) + (1 : Int32)) + (1 : Int32))), (.ref rr), (.int ((0 : Int32) ||| (0 : Int32)))]))
      refine own_go (own_ldJ X35 hx hZ e35 A22 (g := (mkF m 60 #[.val (.ref a), .val (.ref tt), .val (.int (1 : Int32)), .val (.int ((0 : Int32) ||| (0 : Int32))), .val (.int (((0 : Int32) + (1 : Int32)) + (1 : Int32)))] [(.int (((0 : Int32) + (1 : Int32)) + (1 : Int32))), (.ref rr), (.int ((0 : Int32) ||| (0 : Int32)))])) rfl rfl (hb hby d8_60) 2 (by decide) (x := (.long (0 : Int64))) rfl) ?_
      show own_Go p e below _ (T35.setTop (mkF m 61 #[.val (.ref a), .val (.ref tt), .val (.int (1 : Int32)), .val (.int ((0 : Int32) ||| (0 : Int32))), .val (.int (((0 : Int32) + (1 : Int32)) + (1 : Int32)))] [(.long (0 : Int64)), (.int ((0 : Int32) ||| (0 : Int32)))]))
      refine own_go (fun _ => XT.lconst X35.here hx rfl (hb hby d8_61)) ?_
      show own_Go p e below _ (T35.setTop (mkF m 62 #[.val (.ref a), .val (.ref tt), .val (.int (1 : Int32)), .val (.int ((0 : Int32) ||| (0 : Int32))), .val (.int (((0 : Int32) + (1 : Int32)) + (1 : Int32)))] [(.long (0 : Int64)), (.long (0 : Int64)), (.int ((0 : Int32) ||| (0 : Int32)))]))
      refine own_go (fun _ => XT.lcmp X35.here hx rfl (hb hby d8_62) rfl) ?_
      show own_Go p e below _ (T35.setTop (mkF m 63 #[.val (.ref a), .val (.ref tt), .val (.int (1 : Int32)), .val (.int ((0 : Int32) ||| (0 : Int32))), .val (.int (((0 : Int32) + (1 : Int32)) + (1 : Int32)))] [(.int (XT.cmpL (0 : Int64) (0 : Int64))), (.int ((0 : Int32) ||| (0 : Int32)))]))
      refine own_go (fun _ => XS.ifYes X35.here hx rfl (pc0 := 63) (pc' := 70) rfl (hb hby d8_63) rfl (XT.ll_eq_t (by decide)) (by decide) (by decide)) ?_
      show own_Go p e below _ (T35.setTop (mkF m 70 #[.val (.ref a), .val (.ref tt), .val (.int (1 : Int32)), .val (.int ((0 : Int32) ||| (0 : Int32))), .val (.int (((0 : Int32) + (1 : Int32)) + (1 : Int32)))] [(.int ((0 : Int32) ||| (0 : Int32)))]))
      refine own_go (fun _ => XS.iconst X35.here hx rfl (hb hby d8_70)) ?_
      show own_Go p e below _ (T35.setTop (mkF m 71 #[.val (.ref a), .val (.ref tt), .val (.int (1 : Int32)), .val (.int ((0 : Int32) ||| (0 : Int32))), .val (.int (((0 : Int32) + (1 : Int32)) + (1 : Int32)))] [(.int (0 : Int32)), (.int ((0 : Int32) ||| (0 : Int32)))]))
      refine own_go (fun _ => XT.ior X35.here hx rfl (hb hby d8_71) rfl) ?_
      show own_Go p e below _ (T35.setTop (mkF m 72 #[.val (.ref a), .val (.ref tt), .val (.int (1 : Int32)), .val (.int ((0 : Int32) ||| (0 : Int32))), .val (.int (((0 : Int32) + (1 : Int32)) + (1 : Int32)))] [(.int (((0 : Int32) ||| (0 : Int32)) ||| (0 : Int32)))]))
      refine own_go (fun _ => XS.istoreN X35.here hx rfl (hb hby d8_72) rfl (l' := #[.val (.ref a), .val (.ref tt), .val (.int (1 : Int32)), .val (.int (((0 : Int32) ||| (0 : Int32)) ||| (0 : Int32))), .val (.int (((0 : Int32) + (1 : Int32)) + (1 : Int32)))]) rfl) ?_
      show own_Go p e below _ (T35.setTop (mkF m 73 #[.val (.ref a), .val (.ref tt), .val (.int (1 : Int32)), .val (.int (((0 : Int32) ||| (0 : Int32)) ||| (0 : Int32))), .val (.int (((0 : Int32) + (1 : Int32)) + (1 : Int32)))] []))
      refine own_go (fun _ => XS.aloadN X35.here hx rfl (hb hby d8_73) rfl rfl) ?_
      show own_Go p e below _ (T35.setTop (mkF m 74 #[.val (.ref a), .val (.ref tt), .val (.int (1 : Int32)), .val (.int (((0 : Int32) ||| (0 : Int32)) ||| (0 : Int32))), .val (.int (((0 : Int32) + (1 : Int32)) + (1 : Int32)))] [(.ref a)]))
      obtain ⟨T36, X36, e36, st36⟩ := getF X35 hx hZ hown (host := "") (Or.inl (hw _ (List.mem_of_getElem? (i := 18) rfl))) Via.refl e35 o_runs_22 (g := (mkF m 74 #[.val (.ref a), .val (.ref tt), .val (.int (1 : Int32)), .val (.int (((0 : Int32) ||| (0 : Int32)) ||| (0 : Int32))), .val (.int (((0 : Int32) + (1 : Int32)) + (1 : Int32)))] [(.ref a)])) rfl rfl (hb hby d8_74)
      refine own_go st36 ?_
      show own_Go p e below _ (T36.setTop (mkF m 77 #[.val (.ref a), .val (.ref tt), .val (.int (1 : Int32)), .val (.int (((0 : Int32) ||| (0 : Int32)) ||| (0 : Int32))), .val (.int (((0 : Int32) + (1 : Int32)) + (1 : Int32)))] [(.ref rr)]))
      refine own_go (fun _ => XS.iload X36.here hx rfl (hb hby d8_77) rfl) ?_
      show own_Go p e below _ (T36.setTop (mkF m 79 #[.val (.ref a), .val (.ref tt), .val (.int (1 : Int32)), .val (.int (((0 : Int32) ||| (0 : Int32)) ||| (0 : Int32))), .val (.int (((0 : Int32) + (1 : Int32)) + (1 : Int32)))] [(.int (((0 : Int32) + (1 : Int32)) + (1 : Int32))), (.ref rr)]))
      refine own_go (fun _ => XS.aloadN X36.here hx rfl (hb hby d8_79) rfl rfl) ?_
      show own_Go p e below _ (T36.setTop (mkF m 80 #[.val (.ref a), .val (.ref tt), .val (.int (1 : Int32)), .val (.int (((0 : Int32) ||| (0 : Int32)) ||| (0 : Int32))), .val (.int (((0 : Int32) + (1 : Int32)) + (1 : Int32)))] [(.ref tt), (.int (((0 : Int32) + (1 : Int32)) + (1 : Int32))), (.ref rr)]))
      refine own_go (fun _ => XS.iload X36.here hx rfl (hb hby d8_80) rfl) ?_
      show own_Go p e below _ (T36.setTop (mkF m 82 #[.val (.ref a), .val (.ref tt), .val (.int (1 : Int32)), .val (.int (((0 : Int32) ||| (0 : Int32)) ||| (0 : Int32))), .val (.int (((0 : Int32) + (1 : Int32)) + (1 : Int32)))] [(.int (((0 : Int32) + (1 : Int32)) + (1 : Int32))), (.ref tt), (.int (((0 : Int32) + (1 : Int32)) + (1 : Int32))), (.ref rr)]))
      refine own_go (own_ldJ X36 hx hZ e36 t_A_22 (g := (mkF m 82 #[.val (.ref a), .val (.ref tt), .val (.int (1 : Int32)), .val (.int (((0 : Int32) ||| (0 : Int32)) ||| (0 : Int32))), .val (.int (((0 : Int32) + (1 : Int32)) + (1 : Int32)))] [(.int (((0 : Int32) + (1 : Int32)) + (1 : Int32))), (.ref tt), (.int (((0 : Int32) + (1 : Int32)) + (1 : Int32))), (.ref rr)])) rfl rfl (hb hby d8_82) 2 (by decide) (x := (.long y1)) rfl) ?_
      show own_Go p e below _ (T36.setTop (mkF m 83 #[.val (.ref a), .val (.ref tt), .val (.int (1 : Int32)), .val (.int (((0 : Int32) ||| (0 : Int32)) ||| (0 : Int32))), .val (.int (((0 : Int32) + (1 : Int32)) + (1 : Int32)))] [(.long y1), (.int (((0 : Int32) + (1 : Int32)) + (1 : Int32))), (.ref rr)]))
      obtain ⟨T37, h37, X37, e37, W37, A37, st37⟩ := own_stJ X36 hx hZ e36 A22 (g := (mkF m 83 #[.val (.ref a), .val (.ref tt), .val (.int (1 : Int32)), .val (.int (((0 : Int32) ||| (0 : Int32)) ||| (0 : Int32))), .val (.int (((0 : Int32) + (1 : Int32)) + (1 : Int32)))] [(.long y1), (.int (((0 : Int32) + (1 : Int32)) + (1 : Int32))), (.ref rr)])) rfl rfl (hb hby d8_83) 2 (by decide) (by simp)
      have N37 := Fr.snoc X37 N22 gr
      have o_E_37 := o_E_22.wr W37
      have r_E_37 := r_E_22.wr W37
      have o_self_37 := o_self_22.other W37 (Or.inl ne_a_rr)
      have o_runs_37 := o_runs_22.other W37 (Or.inl ne_a_rr)
      have o_marks_37 := o_marks_22.other W37 (Or.inl ne_a_rr)
      have o_marked_37 := o_marked_22.other W37 (Or.inl ne_a_rr)
      have o_heard_37 := o_heard_22.other W37 (Or.inl ne_a_rr)
      have o_preceded_37 := o_preceded_22.other W37 (Or.inl ne_a_rr)
      have o_chosen_37 := o_chosen_22.other W37 (Or.inl ne_a_rr)
      have m_A_37 := m_A_22.other W37 (Ne.symm ne_rr_mm)
      have h_A_37 := h_A_22.other W37 (Ne.symm ne_rr_hh)
      have t_A_37 := t_A_22.other W37 ne_tt_rr
      have K37 := K22.wr W37 (Or.inl (List.mem_of_getElem? (i := 1) rfl))
      refine own_go st37 ?_
      show own_Go p e below _ (T37.setTop (mkF m 84 #[.val (.ref a), .val (.ref tt), .val (.int (1 : Int32)), .val (.int (((0 : Int32) ||| (0 : Int32)) ||| (0 : Int32))), .val (.int (((0 : Int32) + (1 : Int32)) + (1 : Int32)))] []))
      refine own_go (fun _ => XS.iconst X37.here hx rfl (hb hby d8_84)) ?_
      show own_Go p e below _ (T37.setTop (mkF m 85 #[.val (.ref a), .val (.ref tt), .val (.int (1 : Int32)), .val (.int (((0 : Int32) ||| (0 : Int32)) ||| (0 : Int32))), .val (.int (((0 : Int32) + (1 : Int32)) + (1 : Int32)))] [(.int (1 : Int32))]))
      refine own_go (fun _ => XS.istoreN X37.here hx rfl (hb hby d8_85) rfl (l' := #[.val (.ref a), .val (.ref tt), .val (.int (1 : Int32)), .val (.int (((0 : Int32) ||| (0 : Int32)) ||| (0 : Int32))), .val (.int (((0 : Int32) + (1 : Int32)) + (1 : Int32)))]) rfl) ?_
      show own_Go p e below _ (T37.setTop (mkF m 86 #[.val (.ref a), .val (.ref tt), .val (.int (1 : Int32)), .val (.int (((0 : Int32) ||| (0 : Int32)) ||| (0 : Int32))), .val (.int (((0 : Int32) + (1 : Int32)) + (1 : Int32)))] []))
      refine own_go (fun _ => XT.iincV X37.here hx rfl (1 : Int32) (hb hby d8_86) rfl rfl (l' := #[.val (.ref a), .val (.ref tt), .val (.int (1 : Int32)), .val (.int (((0 : Int32) ||| (0 : Int32)) ||| (0 : Int32))), .val (.int ((((0 : Int32) + (1 : Int32)) + (1 : Int32)) + (1 : Int32)))]) rfl) ?_
      show own_Go p e below _ (T37.setTop (mkF m 89 #[.val (.ref a), .val (.ref tt), .val (.int (1 : Int32)), .val (.int (((0 : Int32) ||| (0 : Int32)) ||| (0 : Int32))), .val (.int ((((0 : Int32) + (1 : Int32)) + (1 : Int32)) + (1 : Int32)))] []))
      refine own_go (fun _ => XS.goto X37.here hx rfl (pc0 := 89) (pc' := 7) rfl (hb hby d8_89) (by decide) (by decide)) ?_
      show own_Go p e below _ (T37.setTop (mkF m 7 #[.val (.ref a), .val (.ref tt), .val (.int (1 : Int32)), .val (.int (((0 : Int32) ||| (0 : Int32)) ||| (0 : Int32))), .val (.int ((((0 : Int32) + (1 : Int32)) + (1 : Int32)) + (1 : Int32)))] []))
      refine own_go (fun _ => XS.iload X37.here hx rfl (hb hby d8_7) rfl) ?_
      show own_Go p e below _ (T37.setTop (mkF m 9 #[.val (.ref a), .val (.ref tt), .val (.int (1 : Int32)), .val (.int (((0 : Int32) ||| (0 : Int32)) ||| (0 : Int32))), .val (.int ((((0 : Int32) + (1 : Int32)) + (1 : Int32)) + (1 : Int32)))] [(.int ((((0 : Int32) + (1 : Int32)) + (1 : Int32)) + (1 : Int32)))]))
      refine own_go (fun _ => XS.aloadN X37.here hx rfl (hb hby d8_9) rfl rfl) ?_
      show own_Go p e below _ (T37.setTop (mkF m 10 #[.val (.ref a), .val (.ref tt), .val (.int (1 : Int32)), .val (.int (((0 : Int32) ||| (0 : Int32)) ||| (0 : Int32))), .val (.int ((((0 : Int32) + (1 : Int32)) + (1 : Int32)) + (1 : Int32)))] [(.ref a), (.int ((((0 : Int32) + (1 : Int32)) + (1 : Int32)) + (1 : Int32)))]))
      obtain ⟨T38, X38, e38, st38⟩ := getF X37 hx hZ hown (host := "") (Or.inl (hw _ (List.mem_of_getElem? (i := 18) rfl))) Via.refl e37 o_runs_37 (g := (mkF m 10 #[.val (.ref a), .val (.ref tt), .val (.int (1 : Int32)), .val (.int (((0 : Int32) ||| (0 : Int32)) ||| (0 : Int32))), .val (.int ((((0 : Int32) + (1 : Int32)) + (1 : Int32)) + (1 : Int32)))] [(.ref a), (.int ((((0 : Int32) + (1 : Int32)) + (1 : Int32)) + (1 : Int32)))])) rfl rfl (hb hby d8_10)
      refine own_go st38 ?_
      show own_Go p e below _ (T38.setTop (mkF m 13 #[.val (.ref a), .val (.ref tt), .val (.int (1 : Int32)), .val (.int (((0 : Int32) ||| (0 : Int32)) ||| (0 : Int32))), .val (.int ((((0 : Int32) + (1 : Int32)) + (1 : Int32)) + (1 : Int32)))] [(.ref rr), (.int ((((0 : Int32) + (1 : Int32)) + (1 : Int32)) + (1 : Int32)))]))
      refine own_go (own_len X38 hx hZ e38 A37 (g := (mkF m 13 #[.val (.ref a), .val (.ref tt), .val (.int (1 : Int32)), .val (.int (((0 : Int32) ||| (0 : Int32)) ||| (0 : Int32))), .val (.int ((((0 : Int32) + (1 : Int32)) + (1 : Int32)) + (1 : Int32)))] [(.ref rr), (.int ((((0 : Int32) + (1 : Int32)) + (1 : Int32)) + (1 : Int32)))])) rfl rfl (hb hby d8_13) (3 : Int32) rfl) ?_
      show own_Go p e below _ (T38.setTop (mkF m 14 #[.val (.ref a), .val (.ref tt), .val (.int (1 : Int32)), .val (.int (((0 : Int32) ||| (0 : Int32)) ||| (0 : Int32))), .val (.int ((((0 : Int32) + (1 : Int32)) + (1 : Int32)) + (1 : Int32)))] [(.int (3 : Int32)), (.int ((((0 : Int32) + (1 : Int32)) + (1 : Int32)) + (1 : Int32)))]))
      refine own_go (fun _ => XS.icmpYes X38.here hx rfl (pc0 := 14) (pc' := 92) rfl (hb hby d8_14) rfl (XT.ii_ge_t (by decide)) (by decide) (by decide)) ?_
      show own_Go p e below _ (T38.setTop (mkF m 92 #[.val (.ref a), .val (.ref tt), .val (.int (1 : Int32)), .val (.int (((0 : Int32) ||| (0 : Int32)) ||| (0 : Int32))), .val (.int ((((0 : Int32) + (1 : Int32)) + (1 : Int32)) + (1 : Int32)))] []))
      refine own_go (fun _ => XS.iloadN X38.here hx rfl (hb hby d8_92) rfl) ?_
      show own_Go p e below _ (T38.setTop (mkF m 93 #[.val (.ref a), .val (.ref tt), .val (.int (1 : Int32)), .val (.int (((0 : Int32) ||| (0 : Int32)) ||| (0 : Int32))), .val (.int ((((0 : Int32) + (1 : Int32)) + (1 : Int32)) + (1 : Int32)))] [(.int (((0 : Int32) ||| (0 : Int32)) ||| (0 : Int32)))]))
      refine own_go (fun _ => XS.ifYes X38.here hx rfl (pc0 := 93) (pc' := 101) rfl (hb hby d8_93) rfl (XT.i0_eq_t (by decide)) (by decide) (by decide)) ?_
      show own_Go p e below _ (T38.setTop (mkF m 101 #[.val (.ref a), .val (.ref tt), .val (.int (1 : Int32)), .val (.int (((0 : Int32) ||| (0 : Int32)) ||| (0 : Int32))), .val (.int ((((0 : Int32) + (1 : Int32)) + (1 : Int32)) + (1 : Int32)))] []))
      refine own_go (fun _ => XS.iloadN X38.here hx rfl (hb hby d8_101) rfl) ?_
      show own_Go p e below _ (T38.setTop (mkF m 102 #[.val (.ref a), .val (.ref tt), .val (.int (1 : Int32)), .val (.int (((0 : Int32) ||| (0 : Int32)) ||| (0 : Int32))), .val (.int ((((0 : Int32) + (1 : Int32)) + (1 : Int32)) + (1 : Int32)))] [(.int (1 : Int32))]))
      refine own_go (fun _ => XS.ifNo X38.here hx rfl (hb hby d8_102) rfl (XT.i0_eq_f (by decide))) ?_
      show own_Go p e below _ (T38.setTop (mkF m 105 #[.val (.ref a), .val (.ref tt), .val (.int (1 : Int32)), .val (.int (((0 : Int32) ||| (0 : Int32)) ||| (0 : Int32))), .val (.int ((((0 : Int32) + (1 : Int32)) + (1 : Int32)) + (1 : Int32)))] []))
      refine own_go (fun _ => XS.aloadN X38.here hx rfl (hb hby d8_105) rfl rfl) ?_
      show own_Go p e below _ (T38.setTop (mkF m 106 #[.val (.ref a), .val (.ref tt), .val (.int (1 : Int32)), .val (.int (((0 : Int32) ||| (0 : Int32)) ||| (0 : Int32))), .val (.int ((((0 : Int32) + (1 : Int32)) + (1 : Int32)) + (1 : Int32)))] [(.ref a)]))
      obtain ⟨T39, X39, e39, st39⟩ := getF X38 hx hZ hown (host := "") (Or.inl (hw _ (List.mem_of_getElem? (i := 20) rfl))) Via.refl e38 o_marks_37 (g := (mkF m 106 #[.val (.ref a), .val (.ref tt), .val (.int (1 : Int32)), .val (.int (((0 : Int32) ||| (0 : Int32)) ||| (0 : Int32))), .val (.int ((((0 : Int32) + (1 : Int32)) + (1 : Int32)) + (1 : Int32)))] [(.ref a)])) rfl rfl (hb hby d8_106)
      refine own_go st39 ?_
      show own_Go p e below _ (T39.setTop (mkF m 109 #[.val (.ref a), .val (.ref tt), .val (.int (1 : Int32)), .val (.int (((0 : Int32) ||| (0 : Int32)) ||| (0 : Int32))), .val (.int ((((0 : Int32) + (1 : Int32)) + (1 : Int32)) + (1 : Int32)))] [(.ref mm)]))
      refine own_go (fun _ => XS.aloadN X39.here hx rfl (hb hby d8_109) rfl rfl) ?_
      show own_Go p e below _ (T39.setTop (mkF m 110 #[.val (.ref a), .val (.ref tt), .val (.int (1 : Int32)), .val (.int (((0 : Int32) ||| (0 : Int32)) ||| (0 : Int32))), .val (.int ((((0 : Int32) + (1 : Int32)) + (1 : Int32)) + (1 : Int32)))] [(.ref a), (.ref mm)]))
      refine own_go (fun _ => XS.dup X39.here hx rfl (hb hby d8_110) rfl rfl) ?_
      show own_Go p e below _ (T39.setTop (mkF m 111 #[.val (.ref a), .val (.ref tt), .val (.int (1 : Int32)), .val (.int (((0 : Int32) ||| (0 : Int32)) ||| (0 : Int32))), .val (.int ((((0 : Int32) + (1 : Int32)) + (1 : Int32)) + (1 : Int32)))] [(.ref a), (.ref a), (.ref mm)]))
      obtain ⟨T40, X40, e40, st40⟩ := getF X39 hx hZ hown (host := "") (Or.inl (hw _ (List.mem_of_getElem? (i := 22) rfl))) Via.refl e39 o_marked_37 (g := (mkF m 111 #[.val (.ref a), .val (.ref tt), .val (.int (1 : Int32)), .val (.int (((0 : Int32) ||| (0 : Int32)) ||| (0 : Int32))), .val (.int ((((0 : Int32) + (1 : Int32)) + (1 : Int32)) + (1 : Int32)))] [(.ref a), (.ref a), (.ref mm)])) rfl rfl (hb hby d8_111)
      refine own_go st40 ?_
      show own_Go p e below _ (T40.setTop (mkF m 114 #[.val (.ref a), .val (.ref tt), .val (.int (1 : Int32)), .val (.int (((0 : Int32) ||| (0 : Int32)) ||| (0 : Int32))), .val (.int ((((0 : Int32) + (1 : Int32)) + (1 : Int32)) + (1 : Int32)))] [(.int (1 : Int32)), (.ref a), (.ref mm)]))
      refine own_go (fun _ => XT.dupX1 X40.here hx rfl (hb hby d8_114) rfl rfl rfl) ?_
      show own_Go p e below _ (T40.setTop (mkF m 115 #[.val (.ref a), .val (.ref tt), .val (.int (1 : Int32)), .val (.int (((0 : Int32) ||| (0 : Int32)) ||| (0 : Int32))), .val (.int ((((0 : Int32) + (1 : Int32)) + (1 : Int32)) + (1 : Int32)))] [(.int (1 : Int32)), (.ref a), (.int (1 : Int32)), (.ref mm)]))
      refine own_go (fun _ => XS.iconst X40.here hx rfl (hb hby d8_115)) ?_
      show own_Go p e below _ (T40.setTop (mkF m 116 #[.val (.ref a), .val (.ref tt), .val (.int (1 : Int32)), .val (.int (((0 : Int32) ||| (0 : Int32)) ||| (0 : Int32))), .val (.int ((((0 : Int32) + (1 : Int32)) + (1 : Int32)) + (1 : Int32)))] [(.int (1 : Int32)), (.int (1 : Int32)), (.ref a), (.int (1 : Int32)), (.ref mm)]))
      refine own_go (fun _ => XS.iadd X40.here hx rfl (hb hby d8_116) rfl) ?_
      show own_Go p e below _ (T40.setTop (mkF m 117 #[.val (.ref a), .val (.ref tt), .val (.int (1 : Int32)), .val (.int (((0 : Int32) ||| (0 : Int32)) ||| (0 : Int32))), .val (.int ((((0 : Int32) + (1 : Int32)) + (1 : Int32)) + (1 : Int32)))] [(.int ((1 : Int32) + (1 : Int32))), (.ref a), (.int (1 : Int32)), (.ref mm)]))
      obtain ⟨T41, h41, X41, e41, W41, st41⟩ := putF X40 hx hZ hown (host := "") (Or.inl (hw _ (List.mem_of_getElem? (i := 22) rfl))) Via.refl e40 o_marked_37 o_E_37 (Or.inl (hw _ (List.mem_of_getElem? (i := 23) rfl))) (hw _ (List.mem_of_getElem? (i := 8) rfl)) (ty := .int) (by decide) rfl rfl (g := (mkF m 117 #[.val (.ref a), .val (.ref tt), .val (.int (1 : Int32)), .val (.int (((0 : Int32) ||| (0 : Int32)) ||| (0 : Int32))), .val (.int ((((0 : Int32) + (1 : Int32)) + (1 : Int32)) + (1 : Int32)))] [(.int ((1 : Int32) + (1 : Int32))), (.ref a), (.int (1 : Int32)), (.ref mm)])) rfl rfl (hb hby d8_117)
      have N41 := Fr.snoc X41 N37 ga
      have o_E_41 := o_E_37.wr W41
      have r_E_41 := r_E_37.wr W41
      have o_self_41 := o_self_37.other W41 (Or.inr (slot_ne (t := .int) (t' := .int) (Or.inr (hw _ (List.mem_of_getElem? (i := 17) rfl))) (Or.inl (hw _ (List.mem_of_getElem? (i := 23) rfl))) (by decide) (by decide) (by decide)))
      have o_runs_41 := o_runs_37.other W41 (Or.inr (slot_ne (t := (.array .long)) (t' := .int) (Or.inr (hw _ (List.mem_of_getElem? (i := 19) rfl))) (Or.inl (hw _ (List.mem_of_getElem? (i := 23) rfl))) (by decide) (by decide) (by decide)))
      have o_marks_41 := o_marks_37.other W41 (Or.inr (slot_ne (t := (.array .long)) (t' := .int) (Or.inr (hw _ (List.mem_of_getElem? (i := 21) rfl))) (Or.inl (hw _ (List.mem_of_getElem? (i := 23) rfl))) (by decide) (by decide) (by decide)))
      have o_marked_41 := o_marked_37.same W41
      have o_heard_41 := o_heard_37.other W41 (Or.inr (slot_ne (t := (.array .long)) (t' := .int) (Or.inr (hw _ (List.mem_of_getElem? (i := 34) rfl))) (Or.inl (hw _ (List.mem_of_getElem? (i := 23) rfl))) (by decide) (by decide) (by decide)))
      have o_preceded_41 := o_preceded_37.other W41 (Or.inr (slot_ne (t := .boolean) (t' := .int) (Or.inl (hw _ (List.mem_of_getElem? (i := 41) rfl))) (Or.inl (hw _ (List.mem_of_getElem? (i := 23) rfl))) (by decide) (by decide) (by decide)))
      have o_chosen_41 := o_chosen_37.other W41 (Or.inr (slot_ne (t := .boolean) (t' := .int) (Or.inl (hw _ (List.mem_of_getElem? (i := 43) rfl))) (Or.inl (hw _ (List.mem_of_getElem? (i := 23) rfl))) (by decide) (by decide) (by decide)))
      have r_A_41 := A37.other W41 (Ne.symm ne_a_rr)
      have m_A_41 := m_A_37.other W41 (Ne.symm ne_a_mm)
      have h_A_41 := h_A_37.other W41 (Ne.symm ne_a_hh)
      have t_A_41 := t_A_37.other W41 (Ne.symm ne_a_tt)
      have K41 := K37.wr W41 (Or.inl (List.mem_of_getElem? (i := 0) rfl))
      refine own_go st41 ?_
      show own_Go p e below _ (T41.setTop (mkF m 120 #[.val (.ref a), .val (.ref tt), .val (.int (1 : Int32)), .val (.int (((0 : Int32) ||| (0 : Int32)) ||| (0 : Int32))), .val (.int ((((0 : Int32) + (1 : Int32)) + (1 : Int32)) + (1 : Int32)))] [(.int (1 : Int32)), (.ref mm)]))
      refine own_go (fun _ => XS.aloadN X41.here hx rfl (hb hby d8_120) rfl rfl) ?_
      show own_Go p e below _ (T41.setTop (mkF m 121 #[.val (.ref a), .val (.ref tt), .val (.int (1 : Int32)), .val (.int (((0 : Int32) ||| (0 : Int32)) ||| (0 : Int32))), .val (.int ((((0 : Int32) + (1 : Int32)) + (1 : Int32)) + (1 : Int32)))] [(.ref a), (.int (1 : Int32)), (.ref mm)]))
      obtain ⟨T42, X42, e42, st42⟩ := getF X41 hx hZ hown (host := "") (Or.inl (hw _ (List.mem_of_getElem? (i := 18) rfl))) Via.refl e41 o_runs_41 (g := (mkF m 121 #[.val (.ref a), .val (.ref tt), .val (.int (1 : Int32)), .val (.int (((0 : Int32) ||| (0 : Int32)) ||| (0 : Int32))), .val (.int ((((0 : Int32) + (1 : Int32)) + (1 : Int32)) + (1 : Int32)))] [(.ref a), (.int (1 : Int32)), (.ref mm)])) rfl rfl (hb hby d8_121)
      refine own_go st42 ?_
      show own_Go p e below _ (T42.setTop (mkF m 124 #[.val (.ref a), .val (.ref tt), .val (.int (1 : Int32)), .val (.int (((0 : Int32) ||| (0 : Int32)) ||| (0 : Int32))), .val (.int ((((0 : Int32) + (1 : Int32)) + (1 : Int32)) + (1 : Int32)))] [(.ref rr), (.int (1 : Int32)), (.ref mm)]))
      have r_Ax : own_AV Z h41 rr .long [.long r0, .long y0, .long y1] := r_A_41
      obtain ⟨_, T43, L43, X43, ⟨rfl, eh43, rfl⟩, st43⟩ := own_callS X42 hx hZ hown (argsL := [(.ref rr)]) (rest := [(.int (1 : Int32)), (.ref mm)]) (own_markOf_con l Z a0 hw rr r0 y0 y1 h41 r_Ax []) e42 (hw _ (List.mem_of_getElem? (i := 24) rfl)) (hw _ (List.mem_of_getElem? (i := 25) rfl)) (hw _ (List.mem_of_getElem? (i := 9) rfl)) (hw _ (List.mem_of_getElem? (i := 26) rfl)) (by decide) (by decide +kernel : parseMethodDescriptor "([J)J" = some ⟨[(.array .long)], some .long⟩) rfl (g := (mkF m 124 #[.val (.ref a), .val (.ref tt), .val (.int (1 : Int32)), .val (.int (((0 : Int32) ||| (0 : Int32)) ||| (0 : Int32))), .val (.int ((((0 : Int32) + (1 : Int32)) + (1 : Int32)) + (1 : Int32)))] [(.ref rr), (.int (1 : Int32)), (.ref mm)])) rfl (by rw [hml]; rfl) rfl 2 (by show 2 * 0 + _ ≤ _; exact Nat.le_of_eq rfl) (hb hby d8_124) (by decide) (by decide) (by decide) (by decide)
      rw [List.append_nil] at X43
      refine own_go st43 ?_
      show own_Go p e below _ (T43.setTop (mkF m 127 #[.val (.ref a), .val (.ref tt), .val (.int (1 : Int32)), .val (.int (((0 : Int32) ||| (0 : Int32)) ||| (0 : Int32))), .val (.int ((((0 : Int32) + (1 : Int32)) + (1 : Int32)) + (1 : Int32)))] [(.long (own_mark r0 y0 y1)), (.int (1 : Int32)), (.ref mm)]))
      obtain ⟨T44, h44, X44, e44, W44, A44, st44⟩ := own_stJ X43 hx hZ eh43 m_A_41 (g := (mkF m 127 #[.val (.ref a), .val (.ref tt), .val (.int (1 : Int32)), .val (.int (((0 : Int32) ||| (0 : Int32)) ||| (0 : Int32))), .val (.int ((((0 : Int32) + (1 : Int32)) + (1 : Int32)) + (1 : Int32)))] [(.long (own_mark r0 y0 y1)), (.int (1 : Int32)), (.ref mm)])) rfl rfl (hb hby d8_127) 1 (by decide) (by simp)
      have N44 := Fr.snoc X44 N41 gm
      have o_E_44 := o_E_41.wr W44
      have r_E_44 := r_E_41.wr W44
      have o_self_44 := o_self_41.other W44 (Or.inl ne_a_mm)
      have o_runs_44 := o_runs_41.other W44 (Or.inl ne_a_mm)
      have o_marks_44 := o_marks_41.other W44 (Or.inl ne_a_mm)
      have o_marked_44 := o_marked_41.other W44 (Or.inl ne_a_mm)
      have o_heard_44 := o_heard_41.other W44 (Or.inl ne_a_mm)
      have o_preceded_44 := o_preceded_41.other W44 (Or.inl ne_a_mm)
      have o_chosen_44 := o_chosen_41.other W44 (Or.inl ne_a_mm)
      have r_A_44 := r_Ax.other W44 ne_rr_mm
      have h_A_44 := h_A_41.other W44 (Ne.symm ne_mm_hh)
      have t_A_44 := t_A_41.other W44 ne_tt_mm
      have K44 := K41.wr W44 (Or.inl (List.mem_of_getElem? (i := 2) rfl))
      refine own_go st44 ?_
      show own_Go p e below _ (T44.setTop (mkF m 128 #[.val (.ref a), .val (.ref tt), .val (.int (1 : Int32)), .val (.int (((0 : Int32) ||| (0 : Int32)) ||| (0 : Int32))), .val (.int ((((0 : Int32) + (1 : Int32)) + (1 : Int32)) + (1 : Int32)))] []))
      refine own_go (fun _ => XS.aloadN X44.here hx rfl (hb hby d8_128) rfl rfl) ?_
      show own_Go p e below _ (T44.setTop (mkF m 129 #[.val (.ref a), .val (.ref tt), .val (.int (1 : Int32)), .val (.int (((0 : Int32) ||| (0 : Int32)) ||| (0 : Int32))), .val (.int ((((0 : Int32) + (1 : Int32)) + (1 : Int32)) + (1 : Int32)))] [(.ref a)]))
      refine own_go (fun _ => XS.dup X44.here hx rfl (hb hby d8_129) rfl rfl) ?_
      show own_Go p e below _ (T44.setTop (mkF m 130 #[.val (.ref a), .val (.ref tt), .val (.int (1 : Int32)), .val (.int (((0 : Int32) ||| (0 : Int32)) ||| (0 : Int32))), .val (.int ((((0 : Int32) + (1 : Int32)) + (1 : Int32)) + (1 : Int32)))] [(.ref a), (.ref a)]))
      obtain ⟨T45, X45, e45, st45⟩ := getF X44 hx hZ hown (host := "") (Or.inl (hw _ (List.mem_of_getElem? (i := 42) rfl))) Via.refl e44 o_chosen_44 (g := (mkF m 130 #[.val (.ref a), .val (.ref tt), .val (.int (1 : Int32)), .val (.int (((0 : Int32) ||| (0 : Int32)) ||| (0 : Int32))), .val (.int ((((0 : Int32) + (1 : Int32)) + (1 : Int32)) + (1 : Int32)))] [(.ref a), (.ref a)])) rfl rfl (hb hby d8_130)
      refine own_go st45 ?_
      show own_Go p e below _ (T45.setTop (mkF m 133 #[.val (.ref a), .val (.ref tt), .val (.int (1 : Int32)), .val (.int (((0 : Int32) ||| (0 : Int32)) ||| (0 : Int32))), .val (.int ((((0 : Int32) + (1 : Int32)) + (1 : Int32)) + (1 : Int32)))] [(.int (0 : Int32)), (.ref a)]))
      refine own_go (fun _ => XS.aloadN X45.here hx rfl (hb hby d8_133) rfl rfl) ?_
      show own_Go p e below _ (T45.setTop (mkF m 134 #[.val (.ref a), .val (.ref tt), .val (.int (1 : Int32)), .val (.int (((0 : Int32) ||| (0 : Int32)) ||| (0 : Int32))), .val (.int ((((0 : Int32) + (1 : Int32)) + (1 : Int32)) + (1 : Int32)))] [(.ref a), (.int (0 : Int32)), (.ref a)]))
      have I1 : own_Runs Z h44 a rr mm hh [.long r0, .long y0, .long y1] [.long (own_mark r0 0 0), .long (own_mark r0 y0 y1), .long 0] hs (1 + 1) pr 0 := ⟨⟨o_E_44, r_E_44, r_A_44, A44, h_A_44⟩, ⟨o_self_44, o_runs_44, o_marks_44, o_marked_44, o_heard_44, o_preceded_44, o_chosen_44⟩, ⟨ne_a_rr, ne_a_mm, ne_a_hh, ne_rr_mm, ne_rr_hh, ne_mm_hh⟩⟩
      obtain ⟨_, T46, L46, X46, ⟨rfl, eh46, rfl⟩, st46⟩ := own_callP X45 hx hZ hown (argsL := []) (rest := [(.int (0 : Int32)), (.ref a)]) (own_know_con l Z a0 hw a rr mm hh r0 y0 y1 _ hs (1 + 1) pr 0 h44 I1 []) e45 o_E_44 (hw _ (List.mem_of_getElem? (i := 52) rfl)) (hw _ (List.mem_of_getElem? (i := 53) rfl)) (hw _ (List.mem_of_getElem? (i := 54) rfl)) (hw _ (List.mem_of_getElem? (i := 8) rfl)) (hw _ (List.mem_of_getElem? (i := 9) rfl)) (hw _ (List.mem_of_getElem? (i := 55) rfl)) (by decide) (by decide +kernel : parseMethodDescriptor "()Z" = some ⟨[], some .boolean⟩) rfl (g := (mkF m 134 #[.val (.ref a), .val (.ref tt), .val (.int (1 : Int32)), .val (.int (((0 : Int32) ||| (0 : Int32)) ||| (0 : Int32))), .val (.int ((((0 : Int32) + (1 : Int32)) + (1 : Int32)) + (1 : Int32)))] [(.ref a), (.int (0 : Int32)), (.ref a)])) rfl (by rw [hml]; rfl) rfl 2 (by show 2 * 0 + _ ≤ _; exact Nat.le_of_eq rfl) (hb hby d8_134) (by decide) (by decide) (by decide) (by decide)
      rw [List.append_nil] at X46
      refine own_go st46 ?_
      show own_Go p e below _ (T46.setTop (mkF m 137 #[.val (.ref a), .val (.ref tt), .val (.int (1 : Int32)), .val (.int (((0 : Int32) ||| (0 : Int32)) ||| (0 : Int32))), .val (.int ((((0 : Int32) + (1 : Int32)) + (1 : Int32)) + (1 : Int32)))] [(.int (own_know r0 y0 y1)), (.int (0 : Int32)), (.ref a)]))
      refine own_go (fun _ => XT.ior X46.here hx rfl (hb hby d8_137) rfl) ?_
      show own_Go p e below _ (T46.setTop (mkF m 138 #[.val (.ref a), .val (.ref tt), .val (.int (1 : Int32)), .val (.int (((0 : Int32) ||| (0 : Int32)) ||| (0 : Int32))), .val (.int ((((0 : Int32) + (1 : Int32)) + (1 : Int32)) + (1 : Int32)))] [(.int ((0 : Int32) ||| (own_know r0 y0 y1))), (.ref a)]))
      have hk : narrow .boolean (.int ((0 : Int32) ||| own_know r0 y0 y1)) = .int ((0 : Int32) ||| own_know r0 y0 y1) ∧ fits .boolean (.int ((0 : Int32) ||| own_know r0 y0 y1)) = true := by
        rcases own_know01 r0 y0 y1 with q | q <;> rw [q] <;> exact ⟨rfl, rfl⟩
      obtain ⟨T47, h47, X47, e47, W47, st47⟩ := putF X46 hx hZ hown (host := "") (Or.inl (hw _ (List.mem_of_getElem? (i := 42) rfl))) Via.refl eh46 o_chosen_44 o_E_44 (Or.inl (hw _ (List.mem_of_getElem? (i := 43) rfl))) (hw _ (List.mem_of_getElem? (i := 8) rfl)) (ty := .boolean) (by decide) hk.1 hk.2 (g := (mkF m 138 #[.val (.ref a), .val (.ref tt), .val (.int (1 : Int32)), .val (.int (((0 : Int32) ||| (0 : Int32)) ||| (0 : Int32))), .val (.int ((((0 : Int32) + (1 : Int32)) + (1 : Int32)) + (1 : Int32)))] [(.int ((0 : Int32) ||| (own_know r0 y0 y1))), (.ref a)])) rfl rfl (hb hby d8_138)
      have N47 := Fr.snoc X47 N44 ga
      have o_E_47 := o_E_44.wr W47
      have r_E_47 := r_E_44.wr W47
      have o_self_47 := o_self_44.other W47 (Or.inr (slot_ne (t := .int) (t' := .boolean) (Or.inr (hw _ (List.mem_of_getElem? (i := 17) rfl))) (Or.inl (hw _ (List.mem_of_getElem? (i := 43) rfl))) (by decide) (by decide) (by decide)))
      have o_runs_47 := o_runs_44.other W47 (Or.inr (slot_ne (t := (.array .long)) (t' := .boolean) (Or.inr (hw _ (List.mem_of_getElem? (i := 19) rfl))) (Or.inl (hw _ (List.mem_of_getElem? (i := 43) rfl))) (by decide) (by decide) (by decide)))
      have o_marks_47 := o_marks_44.other W47 (Or.inr (slot_ne (t := (.array .long)) (t' := .boolean) (Or.inr (hw _ (List.mem_of_getElem? (i := 21) rfl))) (Or.inl (hw _ (List.mem_of_getElem? (i := 43) rfl))) (by decide) (by decide) (by decide)))
      have o_marked_47 := o_marked_44.other W47 (Or.inr (slot_ne (t := .int) (t' := .boolean) (Or.inl (hw _ (List.mem_of_getElem? (i := 23) rfl))) (Or.inl (hw _ (List.mem_of_getElem? (i := 43) rfl))) (by decide) (by decide) (by decide)))
      have o_heard_47 := o_heard_44.other W47 (Or.inr (slot_ne (t := (.array .long)) (t' := .boolean) (Or.inr (hw _ (List.mem_of_getElem? (i := 34) rfl))) (Or.inl (hw _ (List.mem_of_getElem? (i := 43) rfl))) (by decide) (by decide) (by decide)))
      have o_preceded_47 := o_preceded_44.other W47 (Or.inr (slot_ne (t := .boolean) (t' := .boolean) (Or.inl (hw _ (List.mem_of_getElem? (i := 41) rfl))) (Or.inl (hw _ (List.mem_of_getElem? (i := 43) rfl))) (by decide) (by decide) (by decide)))
      have o_chosen_47 := o_chosen_44.same W47
      have r_A_47 := r_A_44.other W47 (Ne.symm ne_a_rr)
      have m_A_47 := A44.other W47 (Ne.symm ne_a_mm)
      have h_A_47 := h_A_44.other W47 (Ne.symm ne_a_hh)
      have t_A_47 := t_A_44.other W47 (Ne.symm ne_a_tt)
      have K47 := K44.wr W47 (Or.inl (List.mem_of_getElem? (i := 0) rfl))
      refine own_go st47 ?_
      show own_Go p e below _ (T47.setTop (mkF m 141 #[.val (.ref a), .val (.ref tt), .val (.int (1 : Int32)), .val (.int (((0 : Int32) ||| (0 : Int32)) ||| (0 : Int32))), .val (.int ((((0 : Int32) + (1 : Int32)) + (1 : Int32)) + (1 : Int32)))] []))
      have r_Az : own_AV Z h47 rr .long [.long r0, .long y0, .long y1] := by
        have q : own_AV Z h47 rr .long [.long r0, .long y0, .long y1] := r_A_47
        exact q
      exact own_vret X47 hx hlk hret (hb hby d8_141) (by decide) (by decide) (by rw [e47]; exact ⟨rfl, N47, K47, _, _, _, 1, ⟨⟨o_E_47, r_E_47, r_Az, m_A_47, h_A_47⟩, ⟨o_self_47, o_runs_47, o_marks_47, o_marked_47, o_heard_47, o_preceded_47, o_chosen_47⟩, ⟨ne_a_rr, ne_a_mm, ne_a_hh, ne_rr_mm, ne_rr_hh, ne_mm_hh⟩⟩, by decide, ⟨_, rfl, (own_mark_ne r0 y0 y1)⟩, rfl⟩)
theorem d10_0 : decode prog_25_method_8_code 0 = .ok (.aload_n 0, 1) := by decide +kernel
theorem d10_1 : decode prog_25_method_8_code 1 = .ok (.getfield 36, 3) := by decide +kernel
theorem d10_4 : decode prog_25_method_8_code 4 = .ok (.iload_n 1, 1) := by decide +kernel
theorem d10_5 : decode prog_25_method_8_code 5 = .ok (.lload_n 2, 1) := by decide +kernel
theorem d10_6 : decode prog_25_method_8_code 6 = .ok (.lastore, 1) := by decide +kernel
theorem d10_7 : decode prog_25_method_8_code 7 = .ok (.return_, 1) := by decide +kernel
set_option maxRecDepth 65536 in
set_option maxHeartbeats 40000000 in
theorem own_noteMark_con (l : Launch) (Z : State) (a0 : Array Value) (hw : ∀ d ∈ tables_1, d.before a0 Z = true) (a rr mm hh : Addr) (us ms : List Value) (k pr ch : Int32) (n0 : Nat) (h0 : Heap) (I0 : own_Runs Z h0 a rr mm hh us ms [.long 0, .long 0, .long 0] k pr ch) (ga : n0 ≤ a) (gr : n0 ≤ rr) (gm : n0 ≤ mm) (gh : n0 ≤ hh) (ws : List Jvm.Cond) :
    own_Con l Z (⟨"tidemark/io/Runs", "noteMark", "(IJ)V"⟩ : MethodName) prog_25_method_8_code 4 none ({ frames := 0, cells := 0, slots := 0, locals := 0 } : Room) #[(.ref a), (.int (1 : Int32)), (.long (1 : Int64))] h0 (fun v h L => v = none ∧ Fr n0 L ∧ Keep h0 h [hh] ∧ own_Runs Z h a rr mm hh us ms [.long 0, .long 1, .long 0] k pr ch) ws := by
  refine own_con (F := fun m => (mkF m 0 #[.val (.ref a), .val (.int (1 : Int32)), .val (.long (1 : Int64)), .second] [])) (own_pn (by first | (simp [plainName, overriddenIn]; done) | decide +kernel)) (fun m => by first | (simp [entryFrame, mkF, argsToLocals, Value.category]; done) | rfl) ?_
  intro p e s m below meth c T X hx hby hml hZ hown hnm hret hlk eT
  show own_Go p e below (own_Out s (fun v h L => v = none ∧ Fr n0 L ∧ Keep h0 h [hh] ∧ own_Runs Z h a rr mm hh us ms [.long 0, .long 1, .long 0] k pr ch) ({ frames := 0, cells := 0, slots := 0, locals := 0 } : Room).cells ({ frames := 0, cells := 0, slots := 0, locals := 0 } : Room).slots) (T.setTop (mkF m 0 #[.val (.ref a), .val (.int (1 : Int32)), .val (.long (1 : Int64)), .second] []))
  obtain ⟨⟨o_E0, r_E0, r_A0, m_A0, h_A0⟩, ⟨o_self0, o_runs0, o_marks0, o_marked0, o_heard0, o_preceded0, o_chosen0⟩, ⟨ne_a_rr, ne_a_mm, ne_a_hh, ne_rr_mm, ne_rr_hh, ne_mm_hh⟩⟩ := I0
  have N0 := Fr.nil n0
  have K0 := Keep.refl h0 [hh]
  refine own_go (fun _ => XS.aloadN X.here hx rfl (hb hby d10_0) rfl rfl) ?_
  show own_Go p e below _ (T.setTop (mkF m 1 #[.val (.ref a), .val (.int (1 : Int32)), .val (.long (1 : Int64)), .second] [(.ref a)]))
  obtain ⟨T1, X1, e1, st1⟩ := getF X hx hZ hown (host := "") (Or.inl (hw _ (List.mem_of_getElem? (i := 33) rfl))) Via.refl eT o_heard0 (g := (mkF m 1 #[.val (.ref a), .val (.int (1 : Int32)), .val (.long (1 : Int64)), .second] [(.ref a)])) rfl rfl (hb hby d10_1)
  refine own_go st1 ?_
  show own_Go p e below _ (T1.setTop (mkF m 4 #[.val (.ref a), .val (.int (1 : Int32)), .val (.long (1 : Int64)), .second] [(.ref hh)]))
  refine own_go (fun _ => XS.iloadN X1.here hx rfl (hb hby d10_4) rfl) ?_
  show own_Go p e below _ (T1.setTop (mkF m 5 #[.val (.ref a), .val (.int (1 : Int32)), .val (.long (1 : Int64)), .second] [(.int (1 : Int32)), (.ref hh)]))
  refine own_go (fun _ => XT.lloadN X1.here hx rfl (hb hby d10_5) rfl) ?_
  show own_Go p e below _ (T1.setTop (mkF m 6 #[.val (.ref a), .val (.int (1 : Int32)), .val (.long (1 : Int64)), .second] [(.long (1 : Int64)), (.int (1 : Int32)), (.ref hh)]))
  obtain ⟨T2, h2, X2, e2, W2, A2, st2⟩ := own_stJ X1 hx hZ e1 h_A0 (g := (mkF m 6 #[.val (.ref a), .val (.int (1 : Int32)), .val (.long (1 : Int64)), .second] [(.long (1 : Int64)), (.int (1 : Int32)), (.ref hh)])) rfl rfl (hb hby d10_6) 1 (by decide) (by simp)
  have N2 := Fr.snoc X2 N0 gh
  have o_E_2 := o_E0.wr W2
  have r_E_2 := r_E0.wr W2
  have o_self_2 := o_self0.other W2 (Or.inl ne_a_hh)
  have o_runs_2 := o_runs0.other W2 (Or.inl ne_a_hh)
  have o_marks_2 := o_marks0.other W2 (Or.inl ne_a_hh)
  have o_marked_2 := o_marked0.other W2 (Or.inl ne_a_hh)
  have o_heard_2 := o_heard0.other W2 (Or.inl ne_a_hh)
  have o_preceded_2 := o_preceded0.other W2 (Or.inl ne_a_hh)
  have o_chosen_2 := o_chosen0.other W2 (Or.inl ne_a_hh)
  have r_A_2 := r_A0.other W2 ne_rr_hh
  have m_A_2 := m_A0.other W2 ne_mm_hh
  have K2 := K0.wr W2 (Or.inl (List.mem_of_getElem? (i := 0) rfl))
  refine own_go st2 ?_
  show own_Go p e below _ (T2.setTop (mkF m 7 #[.val (.ref a), .val (.int (1 : Int32)), .val (.long (1 : Int64)), .second] []))
  exact own_vret X2 hx hlk hret (hb hby d10_7) (by decide) (by decide) (by rw [e2]; exact ⟨rfl, N2, K2, ⟨⟨o_E_2, r_E_2, r_A_2, m_A_2, A2⟩, ⟨o_self_2, o_runs_2, o_marks_2, o_marked_2, o_heard_2, o_preceded_2, o_chosen_2⟩, ⟨ne_a_rr, ne_a_mm, ne_a_hh, ne_rr_mm, ne_rr_hh, ne_mm_hh⟩⟩⟩)
theorem d6_0 : decode prog_25_method_7_code 0 = .ok (.aload_n 0, 1) := by decide +kernel
theorem d6_1 : decode prog_25_method_7_code 1 = .ok (.dup, 1) := by decide +kernel
theorem d6_2 : decode prog_25_method_7_code 2 = .ok (.getfield 87, 3) := by decide +kernel
theorem d6_5 : decode prog_25_method_7_code 5 = .ok (.aload 4, 2) := by decide +kernel
theorem d6_7 : decode prog_25_method_7_code 7 = .ok (.ifnull 39, 3) := by decide +kernel
theorem d6_10 : decode prog_25_method_7_code 10 = .ok (.aload 4, 2) := by decide +kernel
theorem d6_12 : decode prog_25_method_7_code 12 = .ok (.aload_n 0, 1) := by decide +kernel
theorem d6_13 : decode prog_25_method_7_code 13 = .ok (.getfield 16, 3) := by decide +kernel
theorem d6_16 : decode prog_25_method_7_code 16 = .ok (.laload, 1) := by decide +kernel
theorem d6_17 : decode prog_25_method_7_code 17 = .ok (.lconst 0, 1) := by decide +kernel
theorem d6_18 : decode prog_25_method_7_code 18 = .ok (.lcmp, 1) := by decide +kernel
theorem d6_19 : decode prog_25_method_7_code 19 = .ok (.ifCond .eq 27, 3) := by decide +kernel
theorem d6_46 : decode prog_25_method_7_code 46 = .ok (.iconst 0, 1) := by decide +kernel
theorem d6_47 : decode prog_25_method_7_code 47 = .ok (.ior, 1) := by decide +kernel
theorem d6_48 : decode prog_25_method_7_code 48 = .ok (.putfield 87, 3) := by decide +kernel
theorem d6_51 : decode prog_25_method_7_code 51 = .ok (.aload_n 0, 1) := by decide +kernel
theorem d6_52 : decode prog_25_method_7_code 52 = .ok (.getfield 87, 3) := by decide +kernel
theorem d6_55 : decode prog_25_method_7_code 55 = .ok (.ifCond .eq 9, 3) := by decide +kernel
theorem d6_64 : decode prog_25_method_7_code 64 = .ok (.aload 4, 2) := by decide +kernel
theorem d6_66 : decode prog_25_method_7_code 66 = .ok (.ifnonnull 13, 3) := by decide +kernel
theorem d6_79 : decode prog_25_method_7_code 79 = .ok (.aload_n 0, 1) := by decide +kernel
theorem d6_80 : decode prog_25_method_7_code 80 = .ok (.getfield 95, 3) := by decide +kernel
theorem d6_83 : decode prog_25_method_7_code 83 = .ok (.ifCond .eq 14, 3) := by decide +kernel
theorem d6_97 : decode prog_25_method_7_code 97 = .ok (.aload_n 0, 1) := by decide +kernel
theorem d6_98 : decode prog_25_method_7_code 98 = .ok (.aload 4, 2) := by decide +kernel
theorem d6_100 : decode prog_25_method_7_code 100 = .ok (.invokevirtual 102, 3) := by decide +kernel
theorem d6_103 : decode prog_25_method_7_code 103 = .ok (.istore 5, 2) := by decide +kernel
theorem d6_105 : decode prog_25_method_7_code 105 = .ok (.iload 5, 2) := by decide +kernel
theorem d6_107 : decode prog_25_method_7_code 107 = .ok (.ifCond .eq 14, 3) := by decide +kernel
theorem d6_110 : decode prog_25_method_7_code 110 = .ok (.aload 4, 2) := by decide +kernel
theorem d6_112 : decode prog_25_method_7_code 112 = .ok (.ifnull 9, 3) := by decide +kernel
theorem d6_115 : decode prog_25_method_7_code 115 = .ok (.aload_n 0, 1) := by decide +kernel
theorem d6_116 : decode prog_25_method_7_code 116 = .ok (.aload 4, 2) := by decide +kernel
theorem d6_118 : decode prog_25_method_7_code 118 = .ok (.invokevirtual 105, 3) := by decide +kernel
theorem d6_121 : decode prog_25_method_7_code 121 = .ok (.aload_n 0, 1) := by decide +kernel
theorem d6_122 : decode prog_25_method_7_code 122 = .ok (.iload_n 1, 1) := by decide +kernel
theorem d6_123 : decode prog_25_method_7_code 123 = .ok (.lload_n 2, 1) := by decide +kernel
theorem d6_124 : decode prog_25_method_7_code 124 = .ok (.invokevirtual 109, 3) := by decide +kernel
theorem d6_127 : decode prog_25_method_7_code 127 = .ok (.iload 5, 2) := by decide +kernel
theorem d6_129 : decode prog_25_method_7_code 129 = .ok (.ireturn, 1) := by decide +kernel
set_option maxRecDepth 65536 in
set_option maxHeartbeats 40000000 in
theorem own_admit_con (l : Launch) (Z : State) (a0 : Array Value) (hw : ∀ d ∈ tables_1, d.before a0 Z = true) (a rr mm hh tt : Addr) (r0 y0 y1 : Int64) (n0 : Nat) (h0 : Heap) (I0 : own_Runs Z h0 a rr mm hh [.long r0, .long 0, .long 0] [.long (own_mark r0 0 0), .long 0, .long 0] [.long 0, .long 0, .long 0] 1 0 0) (t_A0 : own_AV Z h0 tt .long [.long 0, .long y0, .long y1]) (hr : 0 < r0) (ne_tt_rr : tt ≠ rr) (ne_tt_mm : tt ≠ mm) (ne_a_tt : a ≠ tt) (ga : n0 ≤ a) (gr : n0 ≤ rr) (gm : n0 ≤ mm) (gh : n0 ≤ hh) (ws : List Jvm.Cond) :
    own_Con l Z (⟨"tidemark/io/Runs", "admit", "(IJ[J)Z"⟩ : MethodName) prog_25_method_7_code 6 (some .boolean) ({ frames := 3, cells := 0, slots := 0, locals := 120 } : Room) #[(.ref a), (.int (1 : Int32)), (.long (1 : Int64)), (.ref tt)] h0 (fun v h L => v = some (.int 1) ∧ Fr n0 L ∧ Keep h0 h [a, rr, mm, hh] ∧ ∃ ms' k' pr' ch' i, own_Runs Z h a rr mm hh [.long r0, .long y0, .long y1] ms' [.long 0, .long 1, .long 0] k' pr' ch' ∧ k'.toInt = ((i + 1 : Nat) : Int) ∧ (∃ q : Int64, ms'[i]? = some (.long q) ∧ q ≠ 0) ∧ ms'.length = 3) ws := by
  refine own_con (F := fun m => (mkF m 0 #[.val (.ref a), .val (.int (1 : Int32)), .val (.long (1 : Int64)), .second, .val (.ref tt), .unset] [])) (own_pn (by first | (simp [plainName, overriddenIn]; done) | decide +kernel)) (fun m => by first | (simp [entryFrame, mkF, argsToLocals, Value.category]; done) | rfl) ?_
  intro p e s m below meth c T X hx hby hml hZ hown hnm hret hlk eT
  show own_Go p e below (own_Out s (fun v h L => v = some (.int 1) ∧ Fr n0 L ∧ Keep h0 h [a, rr, mm, hh] ∧ ∃ ms' k' pr' ch' i, own_Runs Z h a rr mm hh [.long r0, .long y0, .long y1] ms' [.long 0, .long 1, .long 0] k' pr' ch' ∧ k'.toInt = ((i + 1 : Nat) : Int) ∧ (∃ q : Int64, ms'[i]? = some (.long q) ∧ q ≠ 0) ∧ ms'.length = 3) ({ frames := 3, cells := 0, slots := 0, locals := 120 } : Room).cells ({ frames := 3, cells := 0, slots := 0, locals := 120 } : Room).slots) (T.setTop (mkF m 0 #[.val (.ref a), .val (.int (1 : Int32)), .val (.long (1 : Int64)), .second, .val (.ref tt), .unset] []))
  obtain ⟨⟨o_E0, r_E0, r_A0, m_A0, h_A0⟩, ⟨o_self0, o_runs0, o_marks0, o_marked0, o_heard0, o_preceded0, o_chosen0⟩, ⟨ne_a_rr, ne_a_mm, ne_a_hh, ne_rr_mm, ne_rr_hh, ne_mm_hh⟩⟩ := I0
  have N0 := Fr.nil n0
  have K0 := Keep.refl h0 [a, rr, mm, hh]
  refine own_go (fun _ => XS.aloadN X.here hx rfl (hb hby d6_0) rfl rfl) ?_
  show own_Go p e below _ (T.setTop (mkF m 1 #[.val (.ref a), .val (.int (1 : Int32)), .val (.long (1 : Int64)), .second, .val (.ref tt), .unset] [(.ref a)]))
  refine own_go (fun _ => XS.dup X.here hx rfl (hb hby d6_1) rfl rfl) ?_
  show own_Go p e below _ (T.setTop (mkF m 2 #[.val (.ref a), .val (.int (1 : Int32)), .val (.long (1 : Int64)), .second, .val (.ref tt), .unset] [(.ref a), (.ref a)]))
  obtain ⟨T1, X1, e1, st1⟩ := getF X hx hZ hown (host := "") (Or.inl (hw _ (List.mem_of_getElem? (i := 40) rfl))) Via.refl eT o_preceded0 (g := (mkF m 2 #[.val (.ref a), .val (.int (1 : Int32)), .val (.long (1 : Int64)), .second, .val (.ref tt), .unset] [(.ref a), (.ref a)])) rfl rfl (hb hby d6_2)
  refine own_go st1 ?_
  show own_Go p e below _ (T1.setTop (mkF m 5 #[.val (.ref a), .val (.int (1 : Int32)), .val (.long (1 : Int64)), .second, .val (.ref tt), .unset] [(.int (0 : Int32)), (.ref a)]))
  refine own_go (fun _ => XS.aload X1.here hx rfl (hb hby d6_5) rfl rfl) ?_
  show own_Go p e below _ (T1.setTop (mkF m 7 #[.val (.ref a), .val (.int (1 : Int32)), .val (.long (1 : Int64)), .second, .val (.ref tt), .unset] [(.ref tt), (.int (0 : Int32)), (.ref a)]))
  refine own_go (fun _ => XS.ifnullNo X1.here hx rfl (hb hby d6_7) rfl) ?_
  show own_Go p e below _ (T1.setTop (mkF m 10 #[.val (.ref a), .val (.int (1 : Int32)), .val (.long (1 : Int64)), .second, .val (.ref tt), .unset] [(.int (0 : Int32)), (.ref a)]))
  refine own_go (fun _ => XS.aload X1.here hx rfl (hb hby d6_10) rfl rfl) ?_
  show own_Go p e below _ (T1.setTop (mkF m 12 #[.val (.ref a), .val (.int (1 : Int32)), .val (.long (1 : Int64)), .second, .val (.ref tt), .unset] [(.ref tt), (.int (0 : Int32)), (.ref a)]))
  refine own_go (fun _ => XS.aloadN X1.here hx rfl (hb hby d6_12) rfl rfl) ?_
  show own_Go p e below _ (T1.setTop (mkF m 13 #[.val (.ref a), .val (.int (1 : Int32)), .val (.long (1 : Int64)), .second, .val (.ref tt), .unset] [(.ref a), (.ref tt), (.int (0 : Int32)), (.ref a)]))
  obtain ⟨T2, X2, e2, st2⟩ := getF X1 hx hZ hown (host := "") (Or.inl (hw _ (List.mem_of_getElem? (i := 16) rfl))) Via.refl e1 o_self0 (g := (mkF m 13 #[.val (.ref a), .val (.int (1 : Int32)), .val (.long (1 : Int64)), .second, .val (.ref tt), .unset] [(.ref a), (.ref tt), (.int (0 : Int32)), (.ref a)])) rfl rfl (hb hby d6_13)
  refine own_go st2 ?_
  show own_Go p e below _ (T2.setTop (mkF m 16 #[.val (.ref a), .val (.int (1 : Int32)), .val (.long (1 : Int64)), .second, .val (.ref tt), .unset] [(.int (0 : Int32)), (.ref tt), (.int (0 : Int32)), (.ref a)]))
  refine own_go (own_ldJ X2 hx hZ e2 t_A0 (g := (mkF m 16 #[.val (.ref a), .val (.int (1 : Int32)), .val (.long (1 : Int64)), .second, .val (.ref tt), .unset] [(.int (0 : Int32)), (.ref tt), (.int (0 : Int32)), (.ref a)])) rfl rfl (hb hby d6_16) 0 (by decide) (x := (.long (0 : Int64))) rfl) ?_
  show own_Go p e below _ (T2.setTop (mkF m 17 #[.val (.ref a), .val (.int (1 : Int32)), .val (.long (1 : Int64)), .second, .val (.ref tt), .unset] [(.long (0 : Int64)), (.int (0 : Int32)), (.ref a)]))
  refine own_go (fun _ => XT.lconst X2.here hx rfl (hb hby d6_17)) ?_
  show own_Go p e below _ (T2.setTop (mkF m 18 #[.val (.ref a), .val (.int (1 : Int32)), .val (.long (1 : Int64)), .second, .val (.ref tt), .unset] [(.long (0 : Int64)), (.long (0 : Int64)), (.int (0 : Int32)), (.ref a)]))
  refine own_go (fun _ => XT.lcmp X2.here hx rfl (hb hby d6_18) rfl) ?_
  show own_Go p e below _ (T2.setTop (mkF m 19 #[.val (.ref a), .val (.int (1 : Int32)), .val (.long (1 : Int64)), .second, .val (.ref tt), .unset] [(.int (XT.cmpL (0 : Int64) (0 : Int64))), (.int (0 : Int32)), (.ref a)]))
  refine own_go (fun _ => XS.ifYes X2.here hx rfl (pc0 := 19) (pc' := 46) rfl (hb hby d6_19) rfl (XT.ll_eq_t (by decide)) (by decide) (by decide)) ?_
  show own_Go p e below _ (T2.setTop (mkF m 46 #[.val (.ref a), .val (.int (1 : Int32)), .val (.long (1 : Int64)), .second, .val (.ref tt), .unset] [(.int (0 : Int32)), (.ref a)]))
  refine own_go (fun _ => XS.iconst X2.here hx rfl (hb hby d6_46)) ?_
  show own_Go p e below _ (T2.setTop (mkF m 47 #[.val (.ref a), .val (.int (1 : Int32)), .val (.long (1 : Int64)), .second, .val (.ref tt), .unset] [(.int (0 : Int32)), (.int (0 : Int32)), (.ref a)]))
  refine own_go (fun _ => XT.ior X2.here hx rfl (hb hby d6_47) rfl) ?_
  show own_Go p e below _ (T2.setTop (mkF m 48 #[.val (.ref a), .val (.int (1 : Int32)), .val (.long (1 : Int64)), .second, .val (.ref tt), .unset] [(.int ((0 : Int32) ||| (0 : Int32))), (.ref a)]))
  obtain ⟨T3, h3, X3, e3, W3, st3⟩ := putF X2 hx hZ hown (host := "") (Or.inl (hw _ (List.mem_of_getElem? (i := 40) rfl))) Via.refl e2 o_preceded0 o_E0 (Or.inl (hw _ (List.mem_of_getElem? (i := 41) rfl))) (hw _ (List.mem_of_getElem? (i := 8) rfl)) (ty := .boolean) (by decide) rfl rfl (g := (mkF m 48 #[.val (.ref a), .val (.int (1 : Int32)), .val (.long (1 : Int64)), .second, .val (.ref tt), .unset] [(.int ((0 : Int32) ||| (0 : Int32))), (.ref a)])) rfl rfl (hb hby d6_48)
  have N3 := Fr.snoc X3 N0 ga
  have o_E_3 := o_E0.wr W3
  have r_E_3 := r_E0.wr W3
  have o_self_3 := o_self0.other W3 (Or.inr (slot_ne (t := .int) (t' := .boolean) (Or.inr (hw _ (List.mem_of_getElem? (i := 17) rfl))) (Or.inl (hw _ (List.mem_of_getElem? (i := 41) rfl))) (by decide) (by decide) (by decide)))
  have o_runs_3 := o_runs0.other W3 (Or.inr (slot_ne (t := (.array .long)) (t' := .boolean) (Or.inr (hw _ (List.mem_of_getElem? (i := 19) rfl))) (Or.inl (hw _ (List.mem_of_getElem? (i := 41) rfl))) (by decide) (by decide) (by decide)))
  have o_marks_3 := o_marks0.other W3 (Or.inr (slot_ne (t := (.array .long)) (t' := .boolean) (Or.inr (hw _ (List.mem_of_getElem? (i := 21) rfl))) (Or.inl (hw _ (List.mem_of_getElem? (i := 41) rfl))) (by decide) (by decide) (by decide)))
  have o_marked_3 := o_marked0.other W3 (Or.inr (slot_ne (t := .int) (t' := .boolean) (Or.inl (hw _ (List.mem_of_getElem? (i := 23) rfl))) (Or.inl (hw _ (List.mem_of_getElem? (i := 41) rfl))) (by decide) (by decide) (by decide)))
  have o_heard_3 := o_heard0.other W3 (Or.inr (slot_ne (t := (.array .long)) (t' := .boolean) (Or.inr (hw _ (List.mem_of_getElem? (i := 34) rfl))) (Or.inl (hw _ (List.mem_of_getElem? (i := 41) rfl))) (by decide) (by decide) (by decide)))
  have o_preceded_3 := o_preceded0.same W3
  have o_chosen_3 := o_chosen0.other W3 (Or.inr (slot_ne (t := .boolean) (t' := .boolean) (Or.inl (hw _ (List.mem_of_getElem? (i := 43) rfl))) (Or.inl (hw _ (List.mem_of_getElem? (i := 41) rfl))) (by decide) (by decide) (by decide)))
  have r_A_3 := r_A0.other W3 (Ne.symm ne_a_rr)
  have m_A_3 := m_A0.other W3 (Ne.symm ne_a_mm)
  have h_A_3 := h_A0.other W3 (Ne.symm ne_a_hh)
  have t_A_3 := t_A0.other W3 (Ne.symm ne_a_tt)
  have K3 := K0.wr W3 (Or.inl (List.mem_of_getElem? (i := 0) rfl))
  refine own_go st3 ?_
  show own_Go p e below _ (T3.setTop (mkF m 51 #[.val (.ref a), .val (.int (1 : Int32)), .val (.long (1 : Int64)), .second, .val (.ref tt), .unset] []))
  refine own_go (fun _ => XS.aloadN X3.here hx rfl (hb hby d6_51) rfl rfl) ?_
  show own_Go p e below _ (T3.setTop (mkF m 52 #[.val (.ref a), .val (.int (1 : Int32)), .val (.long (1 : Int64)), .second, .val (.ref tt), .unset] [(.ref a)]))
  obtain ⟨T4, X4, e4, st4⟩ := getF X3 hx hZ hown (host := "") (Or.inl (hw _ (List.mem_of_getElem? (i := 40) rfl))) Via.refl e3 o_preceded_3 (g := (mkF m 52 #[.val (.ref a), .val (.int (1 : Int32)), .val (.long (1 : Int64)), .second, .val (.ref tt), .unset] [(.ref a)])) rfl rfl (hb hby d6_52)
  refine own_go st4 ?_
  show own_Go p e below _ (T4.setTop (mkF m 55 #[.val (.ref a), .val (.int (1 : Int32)), .val (.long (1 : Int64)), .second, .val (.ref tt), .unset] [(.int ((0 : Int32) ||| (0 : Int32)))]))
  refine own_go (fun _ => XS.ifYes X4.here hx rfl (pc0 := 55) (pc' := 64) rfl (hb hby d6_55) rfl (XT.i0_eq_t (by decide)) (by decide) (by decide)) ?_
  show own_Go p e below _ (T4.setTop (mkF m 64 #[.val (.ref a), .val (.int (1 : Int32)), .val (.long (1 : Int64)), .second, .val (.ref tt), .unset] []))
  refine own_go (fun _ => XS.aload X4.here hx rfl (hb hby d6_64) rfl rfl) ?_
  show own_Go p e below _ (T4.setTop (mkF m 66 #[.val (.ref a), .val (.int (1 : Int32)), .val (.long (1 : Int64)), .second, .val (.ref tt), .unset] [(.ref tt)]))
  refine own_go (fun _ => XT.ifnonnullYes X4.here hx rfl (pc0 := 66) (pc' := 79) rfl (hb hby d6_66) rfl (by decide) (by decide)) ?_
  show own_Go p e below _ (T4.setTop (mkF m 79 #[.val (.ref a), .val (.int (1 : Int32)), .val (.long (1 : Int64)), .second, .val (.ref tt), .unset] []))
  refine own_go (fun _ => XS.aloadN X4.here hx rfl (hb hby d6_79) rfl rfl) ?_
  show own_Go p e below _ (T4.setTop (mkF m 80 #[.val (.ref a), .val (.int (1 : Int32)), .val (.long (1 : Int64)), .second, .val (.ref tt), .unset] [(.ref a)]))
  obtain ⟨T5, X5, e5, st5⟩ := getF X4 hx hZ hown (host := "") (Or.inl (hw _ (List.mem_of_getElem? (i := 42) rfl))) Via.refl e4 o_chosen_3 (g := (mkF m 80 #[.val (.ref a), .val (.int (1 : Int32)), .val (.long (1 : Int64)), .second, .val (.ref tt), .unset] [(.ref a)])) rfl rfl (hb hby d6_80)
  refine own_go st5 ?_
  show own_Go p e below _ (T5.setTop (mkF m 83 #[.val (.ref a), .val (.int (1 : Int32)), .val (.long (1 : Int64)), .second, .val (.ref tt), .unset] [(.int (0 : Int32))]))
  refine own_go (fun _ => XS.ifYes X5.here hx rfl (pc0 := 83) (pc' := 97) rfl (hb hby d6_83) rfl (XT.i0_eq_t (by decide)) (by decide) (by decide)) ?_
  show own_Go p e below _ (T5.setTop (mkF m 97 #[.val (.ref a), .val (.int (1 : Int32)), .val (.long (1 : Int64)), .second, .val (.ref tt), .unset] []))
  refine own_go (fun _ => XS.aloadN X5.here hx rfl (hb hby d6_97) rfl rfl) ?_
  show own_Go p e below _ (T5.setTop (mkF m 98 #[.val (.ref a), .val (.int (1 : Int32)), .val (.long (1 : Int64)), .second, .val (.ref tt), .unset] [(.ref a)]))
  refine own_go (fun _ => XS.aload X5.here hx rfl (hb hby d6_98) rfl rfl) ?_
  show own_Go p e below _ (T5.setTop (mkF m 100 #[.val (.ref a), .val (.int (1 : Int32)), .val (.long (1 : Int64)), .second, .val (.ref tt), .unset] [(.ref tt), (.ref a)]))
  have I1 : own_Runs Z h3 a rr mm hh [.long r0, .long 0, .long 0] [.long (own_mark r0 0 0), .long 0, .long 0] [.long 0, .long 0, .long 0] 1 (0 ||| 0) 0 := ⟨⟨o_E_3, r_E_3, r_A_3, m_A_3, h_A_3⟩, ⟨o_self_3, o_runs_3, o_marks_3, o_marked_3, o_heard_3, o_preceded_3, o_chosen_3⟩, ⟨ne_a_rr, ne_a_mm, ne_a_hh, ne_rr_mm, ne_rr_hh, ne_mm_hh⟩⟩
  obtain ⟨_, T6, L6, X6, ⟨rfl, eh6, rfl⟩, st6⟩ := own_callP X5 hx hZ hown (argsL := [(.ref tt)]) (rest := []) (own_noneLater_con l Z a0 hw a rr mm hh tt r0 y0 y1 _ _ 1 (0 ||| 0) 0 h3 I1 t_A_3 hr []) e5 o_E_3 (hw _ (List.mem_of_getElem? (i := 44) rfl)) (hw _ (List.mem_of_getElem? (i := 45) rfl)) (hw _ (List.mem_of_getElem? (i := 46) rfl)) (hw _ (List.mem_of_getElem? (i := 8) rfl)) (hw _ (List.mem_of_getElem? (i := 9) rfl)) (hw _ (List.mem_of_getElem? (i := 47) rfl)) (by decide) (by decide +kernel : parseMethodDescriptor "([J)Z" = some ⟨[(.array .long)], some .boolean⟩) rfl (g := (mkF m 100 #[.val (.ref a), .val (.int (1 : Int32)), .val (.long (1 : Int64)), .second, .val (.ref tt), .unset] [(.ref tt), (.ref a)])) rfl (by rw [hml]; rfl) rfl 0 (by show 2 * 0 + _ ≤ _; exact Nat.le_of_eq rfl) (hb hby d6_100) (by decide) (by decide) (by decide) (by decide)
  rw [List.append_nil] at X6
  refine own_go st6 ?_
  show own_Go p e below _ (T6.setTop (mkF m 103 #[.val (.ref a), .val (.int (1 : Int32)), .val (.long (1 : Int64)), .second, .val (.ref tt), .unset] [(.int (1 : Int32))]))
  refine own_go (fun _ => XS.istore X6.here hx rfl (hb hby d6_103) rfl (l' := #[.val (.ref a), .val (.int (1 : Int32)), .val (.long (1 : Int64)), .second, .val (.ref tt), .val (.int (1 : Int32))]) rfl) ?_
  show own_Go p e below _ (T6.setTop (mkF m 105 #[.val (.ref a), .val (.int (1 : Int32)), .val (.long (1 : Int64)), .second, .val (.ref tt), .val (.int (1 : Int32))] []))
  refine own_go (fun _ => XS.iload X6.here hx rfl (hb hby d6_105) rfl) ?_
  show own_Go p e below _ (T6.setTop (mkF m 107 #[.val (.ref a), .val (.int (1 : Int32)), .val (.long (1 : Int64)), .second, .val (.ref tt), .val (.int (1 : Int32))] [(.int (1 : Int32))]))
  refine own_go (fun _ => XS.ifNo X6.here hx rfl (hb hby d6_107) rfl (XT.i0_eq_f (by decide))) ?_
  show own_Go p e below _ (T6.setTop (mkF m 110 #[.val (.ref a), .val (.int (1 : Int32)), .val (.long (1 : Int64)), .second, .val (.ref tt), .val (.int (1 : Int32))] []))
  refine own_go (fun _ => XS.aload X6.here hx rfl (hb hby d6_110) rfl rfl) ?_
  show own_Go p e below _ (T6.setTop (mkF m 112 #[.val (.ref a), .val (.int (1 : Int32)), .val (.long (1 : Int64)), .second, .val (.ref tt), .val (.int (1 : Int32))] [(.ref tt)]))
  refine own_go (fun _ => XS.ifnullNo X6.here hx rfl (hb hby d6_112) rfl) ?_
  show own_Go p e below _ (T6.setTop (mkF m 115 #[.val (.ref a), .val (.int (1 : Int32)), .val (.long (1 : Int64)), .second, .val (.ref tt), .val (.int (1 : Int32))] []))
  refine own_go (fun _ => XS.aloadN X6.here hx rfl (hb hby d6_115) rfl rfl) ?_
  show own_Go p e below _ (T6.setTop (mkF m 116 #[.val (.ref a), .val (.int (1 : Int32)), .val (.long (1 : Int64)), .second, .val (.ref tt), .val (.int (1 : Int32))] [(.ref a)]))
  refine own_go (fun _ => XS.aload X6.here hx rfl (hb hby d6_116) rfl rfl) ?_
  show own_Go p e below _ (T6.setTop (mkF m 118 #[.val (.ref a), .val (.int (1 : Int32)), .val (.long (1 : Int64)), .second, .val (.ref tt), .val (.int (1 : Int32))] [(.ref tt), (.ref a)]))
  obtain ⟨_, T7, L7, X7, ⟨rfl, Nc7, Kc7, ms', k', ch', i, I7, hk', hm', hl'⟩, st7⟩ := own_callP X6 hx hZ hown (argsL := [(.ref tt)]) (rest := []) (own_learn_con l Z a0 hw a rr mm hh tt r0 y0 y1 [.long 0, .long 0, .long 0] (0 ||| 0) n0 h3 I1 t_A_3 ne_tt_rr ne_tt_mm ne_a_tt ga gr gm gh []) eh6 o_E_3 (hw _ (List.mem_of_getElem? (i := 48) rfl)) (hw _ (List.mem_of_getElem? (i := 49) rfl)) (hw _ (List.mem_of_getElem? (i := 50) rfl)) (hw _ (List.mem_of_getElem? (i := 8) rfl)) (hw _ (List.mem_of_getElem? (i := 9) rfl)) (hw _ (List.mem_of_getElem? (i := 51) rfl)) (by decide) (by decide +kernel : parseMethodDescriptor "([J)V" = some ⟨[(.array .long)], none⟩) rfl (g := (mkF m 118 #[.val (.ref a), .val (.int (1 : Int32)), .val (.long (1 : Int64)), .second, .val (.ref tt), .val (.int (1 : Int32))] [(.ref tt), (.ref a)])) rfl (by rw [hml]; rfl) rfl 0 (by show 2 * 0 + _ ≤ _; exact Nat.le_of_eq rfl) (hb hby d6_118) (by decide) (by decide) (by decide) (by decide)
  have N7 := Fr.app N3 Nc7
  have o_E_7 := o_E_3.keep Kc7
  have r_E_7 := r_E_3.keep Kc7
  have h_A_7 := h_A_3.keep Kc7 (ninS (Ne.symm ne_a_hh) (ninS (Ne.symm ne_rr_hh) (ninS (Ne.symm ne_mm_hh) nin0)))
  have t_A_7 := t_A_3.keep Kc7 (ninS (Ne.symm ne_a_tt) (ninS ne_tt_rr (ninS ne_tt_mm nin0)))
  have K7 := K3.trans Kc7 (allS (Or.inl (List.mem_of_getElem? (i := 0) rfl)) (allS (Or.inl (List.mem_of_getElem? (i := 1) rfl)) (allS (Or.inl (List.mem_of_getElem? (i := 2) rfl)) all0)))
  refine own_go st7 ?_
  show own_Go p e below _ (T7.setTop (mkF m 121 #[.val (.ref a), .val (.int (1 : Int32)), .val (.long (1 : Int64)), .second, .val (.ref tt), .val (.int (1 : Int32))] []))
  obtain ⟨⟨ex, _⟩, _⟩ := id I7
  refine own_go (fun _ => XS.aloadN X7.here hx rfl (hb hby d6_121) rfl rfl) ?_
  show own_Go p e below _ (T7.setTop (mkF m 122 #[.val (.ref a), .val (.int (1 : Int32)), .val (.long (1 : Int64)), .second, .val (.ref tt), .val (.int (1 : Int32))] [(.ref a)]))
  refine own_go (fun _ => XS.iloadN X7.here hx rfl (hb hby d6_122) rfl) ?_
  show own_Go p e below _ (T7.setTop (mkF m 123 #[.val (.ref a), .val (.int (1 : Int32)), .val (.long (1 : Int64)), .second, .val (.ref tt), .val (.int (1 : Int32))] [(.int (1 : Int32)), (.ref a)]))
  refine own_go (fun _ => XT.lloadN X7.here hx rfl (hb hby d6_123) rfl) ?_
  show own_Go p e below _ (T7.setTop (mkF m 124 #[.val (.ref a), .val (.int (1 : Int32)), .val (.long (1 : Int64)), .second, .val (.ref tt), .val (.int (1 : Int32))] [(.long (1 : Int64)), (.int (1 : Int32)), (.ref a)]))
  obtain ⟨_, T8, L8, X8, ⟨rfl, Nc8, Kc8, I8⟩, st8⟩ := own_callV X7 hx hZ hown (argsL := [(.int (1 : Int32)), (.long (1 : Int64))]) (rest := []) (own_noteMark_con l Z a0 hw a rr mm hh _ ms' k' (0 ||| 0) ch' n0 T7.heap I7 ga gr gm gh []) rfl ex (hw _ (List.mem_of_getElem? (i := 56) rfl)) (hw _ (List.mem_of_getElem? (i := 57) rfl)) (hw _ (List.mem_of_getElem? (i := 59) rfl)) (hw _ (List.mem_of_getElem? (i := 58) rfl)) (hw _ (List.mem_of_getElem? (i := 9) rfl)) (hw _ (List.mem_of_getElem? (i := 60) rfl)) (notFace_of_selects (args := #[]) (mvT hZ (hw _ (List.mem_of_getElem? (i := 59) rfl)))) (by decide) (by decide +kernel : parseMethodDescriptor "(IJ)V" = some ⟨[.int, .long], none⟩) rfl (g := (mkF m 124 #[.val (.ref a), .val (.int (1 : Int32)), .val (.long (1 : Int64)), .second, .val (.ref tt), .val (.int (1 : Int32))] [(.long (1 : Int64)), (.int (1 : Int32)), (.ref a)])) rfl (by rw [hml]; rfl) rfl 0 (by show 2 * 0 + _ ≤ _; exact Nat.le_of_eq rfl) (hb hby d6_124) (by decide) (by decide) (by decide) (by decide)
  have N8 := Fr.app N7 Nc8
  have o_E_8 := ex.keep Kc8
  have K8 := K7.trans Kc8 (allS (Or.inl (List.mem_of_getElem? (i := 3) rfl)) all0)
  refine own_go st8 ?_
  show own_Go p e below _ (T8.setTop (mkF m 127 #[.val (.ref a), .val (.int (1 : Int32)), .val (.long (1 : Int64)), .second, .val (.ref tt), .val (.int (1 : Int32))] []))
  refine own_go (fun _ => XS.iload X8.here hx rfl (hb hby d6_127) rfl) ?_
  show own_Go p e below _ (T8.setTop (mkF m 129 #[.val (.ref a), .val (.int (1 : Int32)), .val (.long (1 : Int64)), .second, .val (.ref tt), .val (.int (1 : Int32))] [(.int (1 : Int32))]))
  exact own_iret X8 hx hlk hret (Or.inr (Or.inl rfl)) rfl (hb hby d6_129) (by decide) (by decide) ⟨rfl, N8, K8, ms', k', _, ch', i, I8, hk', hm', hl'⟩
def own_ag (t r : Int64) (k : Int32) : Int32 := if t = 0 then k else if r = 0 then k else if t = r then k else 0
theorem d11_0 : decode prog_25_method_13_code 0 = .ok (.iconst 0, 1) := by decide +kernel
theorem d11_1 : decode prog_25_method_13_code 1 = .ok (.istore_n 2, 1) := by decide +kernel
theorem d11_2 : decode prog_25_method_13_code 2 = .ok (.iload_n 2, 1) := by decide +kernel
theorem d11_3 : decode prog_25_method_13_code 3 = .ok (.aload_n 0, 1) := by decide +kernel
theorem d11_4 : decode prog_25_method_13_code 4 = .ok (.getfield 22, 3) := by decide +kernel
theorem d11_7 : decode prog_25_method_13_code 7 = .ok (.arraylength, 1) := by decide +kernel
theorem d11_8 : decode prog_25_method_13_code 8 = .ok (.if_icmp .ge 43, 3) := by decide +kernel
theorem d11_11 : decode prog_25_method_13_code 11 = .ok (.aload_n 1, 1) := by decide +kernel
theorem d11_12 : decode prog_25_method_13_code 12 = .ok (.iload_n 2, 1) := by decide +kernel
theorem d11_13 : decode prog_25_method_13_code 13 = .ok (.laload, 1) := by decide +kernel
theorem d11_14 : decode prog_25_method_13_code 14 = .ok (.lconst 0, 1) := by decide +kernel
theorem d11_15 : decode prog_25_method_13_code 15 = .ok (.lcmp, 1) := by decide +kernel
theorem d11_16 : decode prog_25_method_13_code 16 = .ok (.ifCond .eq 29, 3) := by decide +kernel
theorem d11_19 : decode prog_25_method_13_code 19 = .ok (.aload_n 0, 1) := by decide +kernel
theorem d11_20 : decode prog_25_method_13_code 20 = .ok (.getfield 22, 3) := by decide +kernel
theorem d11_23 : decode prog_25_method_13_code 23 = .ok (.iload_n 2, 1) := by decide +kernel
theorem d11_24 : decode prog_25_method_13_code 24 = .ok (.laload, 1) := by decide +kernel
theorem d11_25 : decode prog_25_method_13_code 25 = .ok (.lconst 0, 1) := by decide +kernel
theorem d11_26 : decode prog_25_method_13_code 26 = .ok (.lcmp, 1) := by decide +kernel
theorem d11_27 : decode prog_25_method_13_code 27 = .ok (.ifCond .eq 18, 3) := by decide +kernel
theorem d11_30 : decode prog_25_method_13_code 30 = .ok (.aload_n 1, 1) := by decide +kernel
theorem d11_31 : decode prog_25_method_13_code 31 = .ok (.iload_n 2, 1) := by decide +kernel
theorem d11_32 : decode prog_25_method_13_code 32 = .ok (.laload, 1) := by decide +kernel
theorem d11_33 : decode prog_25_method_13_code 33 = .ok (.aload_n 0, 1) := by decide +kernel
theorem d11_34 : decode prog_25_method_13_code 34 = .ok (.getfield 22, 3) := by decide +kernel
theorem d11_37 : decode prog_25_method_13_code 37 = .ok (.iload_n 2, 1) := by decide +kernel
theorem d11_38 : decode prog_25_method_13_code 38 = .ok (.laload, 1) := by decide +kernel
theorem d11_39 : decode prog_25_method_13_code 39 = .ok (.lcmp, 1) := by decide +kernel
theorem d11_40 : decode prog_25_method_13_code 40 = .ok (.ifCond .eq 5, 3) := by decide +kernel
theorem d11_43 : decode prog_25_method_13_code 43 = .ok (.iconst 0, 1) := by decide +kernel
theorem d11_44 : decode prog_25_method_13_code 44 = .ok (.ireturn, 1) := by decide +kernel
theorem d11_45 : decode prog_25_method_13_code 45 = .ok (.iinc 2 1, 3) := by decide +kernel
theorem d11_48 : decode prog_25_method_13_code 48 = .ok (.goto (-46), 3) := by decide +kernel
theorem d11_51 : decode prog_25_method_13_code 51 = .ok (.iconst 1, 1) := by decide +kernel
theorem d11_52 : decode prog_25_method_13_code 52 = .ok (.ireturn, 1) := by decide +kernel
set_option maxRecDepth 65536 in
set_option maxHeartbeats 40000000 in
theorem own_agree_con (l : Launch) (Z : State) (a0 : Array Value) (hw : ∀ d ∈ tables_1, d.before a0 Z = true) (a rr mm hh tt : Addr) (r0 y0 y1 t0 t1 t2 : Int64) (ms hs : List Value) (k pr ch : Int32) (h0 : Heap) (I0 : own_Runs Z h0 a rr mm hh [.long r0, .long y0, .long y1] ms hs k pr ch) (t_A0 : own_AV Z h0 tt .long [.long t0, .long t1, .long t2]) (ws : List Jvm.Cond) :
    own_Con l Z (⟨"tidemark/io/Runs", "agree", "([J)Z"⟩ : MethodName) prog_25_method_13_code 3 (some .boolean) ({ frames := 0, cells := 0, slots := 0, locals := 0 } : Room) #[(.ref a), (.ref tt)] h0 (own_PQ h0 (.int (own_ag t0 r0 (own_ag t1 y0 (own_ag t2 y1 1))))) ws := by
  refine own_con (F := fun m => (mkF m 0 #[.val (.ref a), .val (.ref tt), .unset] [])) (own_pn (by first | (simp [plainName, overriddenIn]; done) | decide +kernel)) (fun m => by first | (simp [entryFrame, mkF, argsToLocals, Value.category]; done) | rfl) ?_
  intro p e s m below meth c T X hx hby hml hZ hown hnm hret hlk eT
  show own_Go p e below (own_Out s (own_PQ h0 (.int (own_ag t0 r0 (own_ag t1 y0 (own_ag t2 y1 1))))) ({ frames := 0, cells := 0, slots := 0, locals := 0 } : Room).cells ({ frames := 0, cells := 0, slots := 0, locals := 0 } : Room).slots) (T.setTop (mkF m 0 #[.val (.ref a), .val (.ref tt), .unset] []))
  obtain ⟨⟨o_E0, r_E0, r_A0, m_A0, h_A0⟩, ⟨o_self0, o_runs0, o_marks0, o_marked0, o_heard0, o_preceded0, o_chosen0⟩, ⟨ne_a_rr, ne_a_mm, ne_a_hh, ne_rr_mm, ne_rr_hh, ne_mm_hh⟩⟩ := I0
  have G3 : ∀ (T : State) (X : Stand p l e ({ frames := 0, cells := 0, slots := 0, locals := 0 } : Room) s m #[(.ref a), (.ref tt)] below meth c T [] 0 0) (eT : T.heap = h0), own_Go p e below (own_Out s (own_PQ h0 (.int 1)) 0 0) (T.setTop (mkF m 2 #[.val (.ref a), .val (.ref tt), .val (.int ((((0 : Int32) + (1 : Int32)) + (1 : Int32)) + (1 : Int32)))] [])) := by
    intro T X eT
    refine own_go (fun _ => XS.iloadN X.here hx rfl (hb hby d11_2) rfl) ?_
    show own_Go p e below _ (T.setTop (mkF m 3 #[.val (.ref a), .val (.ref tt), .val (.int ((((0 : Int32) + (1 : Int32)) + (1 : Int32)) + (1 : Int32)))] [(.int ((((0 : Int32) + (1 : Int32)) + (1 : Int32)) + (1 : Int32)))]))
    refine own_go (fun _ => XS.aloadN X.here hx rfl (hb hby d11_3) rfl rfl) ?_
    show own_Go p e below _ (T.setTop (mkF m 4 #[.val (.ref a), .val (.ref tt), .val (.int ((((0 : Int32) + (1 : Int32)) + (1 : Int32)) + (1 : Int32)))] [(.ref a), (.int ((((0 : Int32) + (1 : Int32)) + (1 : Int32)) + (1 : Int32)))]))
    obtain ⟨T1, X1, e1, st1⟩ := getF X hx hZ hown (host := "") (Or.inl (hw _ (List.mem_of_getElem? (i := 18) rfl))) Via.refl eT o_runs0 (g := (mkF m 4 #[.val (.ref a), .val (.ref tt), .val (.int ((((0 : Int32) + (1 : Int32)) + (1 : Int32)) + (1 : Int32)))] [(.ref a), (.int ((((0 : Int32) + (1 : Int32)) + (1 : Int32)) + (1 : Int32)))])) rfl rfl (hb hby d11_4)
    refine own_go st1 ?_
    show own_Go p e below _ (T1.setTop (mkF m 7 #[.val (.ref a), .val (.ref tt), .val (.int ((((0 : Int32) + (1 : Int32)) + (1 : Int32)) + (1 : Int32)))] [(.ref rr), (.int ((((0 : Int32) + (1 : Int32)) + (1 : Int32)) + (1 : Int32)))]))
    refine own_go (own_len X1 hx hZ e1 r_A0 (g := (mkF m 7 #[.val (.ref a), .val (.ref tt), .val (.int ((((0 : Int32) + (1 : Int32)) + (1 : Int32)) + (1 : Int32)))] [(.ref rr), (.int ((((0 : Int32) + (1 : Int32)) + (1 : Int32)) + (1 : Int32)))])) rfl rfl (hb hby d11_7) (3 : Int32) rfl) ?_
    show own_Go p e below _ (T1.setTop (mkF m 8 #[.val (.ref a), .val (.ref tt), .val (.int ((((0 : Int32) + (1 : Int32)) + (1 : Int32)) + (1 : Int32)))] [(.int (3 : Int32)), (.int ((((0 : Int32) + (1 : Int32)) + (1 : Int32)) + (1 : Int32)))]))
    refine own_go (fun _ => XS.icmpYes X1.here hx rfl (pc0 := 8) (pc' := 51) rfl (hb hby d11_8) rfl (XT.ii_ge_t (by decide)) (by decide) (by decide)) ?_
    show own_Go p e below _ (T1.setTop (mkF m 51 #[.val (.ref a), .val (.ref tt), .val (.int ((((0 : Int32) + (1 : Int32)) + (1 : Int32)) + (1 : Int32)))] []))
    refine own_go (fun _ => XS.iconst X1.here hx rfl (hb hby d11_51)) ?_
    show own_Go p e below _ (T1.setTop (mkF m 52 #[.val (.ref a), .val (.ref tt), .val (.int ((((0 : Int32) + (1 : Int32)) + (1 : Int32)) + (1 : Int32)))] [(.int (1 : Int32))]))
    exact own_iret X1 hx hlk hret (Or.inr (Or.inl rfl)) rfl (hb hby d11_52) (Nat.zero_le _) (Nat.zero_le _) ⟨rfl, e1, rfl⟩
  have G2 : ∀ (T : State) (X : Stand p l e ({ frames := 0, cells := 0, slots := 0, locals := 0 } : Room) s m #[(.ref a), (.ref tt)] below meth c T [] 0 0) (eT : T.heap = h0), own_Go p e below (own_Out s (own_PQ h0 (.int (own_ag t2 y1 1))) 0 0) (T.setTop (mkF m 2 #[.val (.ref a), .val (.ref tt), .val (.int (((0 : Int32) + (1 : Int32)) + (1 : Int32)))] [])) := by
    intro T X eT
    refine own_go (fun _ => XS.iloadN X.here hx rfl (hb hby d11_2) rfl) ?_
    show own_Go p e below _ (T.setTop (mkF m 3 #[.val (.ref a), .val (.ref tt), .val (.int (((0 : Int32) + (1 : Int32)) + (1 : Int32)))] [(.int (((0 : Int32) + (1 : Int32)) + (1 : Int32)))]))
    refine own_go (fun _ => XS.aloadN X.here hx rfl (hb hby d11_3) rfl rfl) ?_
    show own_Go p e below _ (T.setTop (mkF m 4 #[.val (.ref a), .val (.ref tt), .val (.int (((0 : Int32) + (1 : Int32)) + (1 : Int32)))] [(.ref a), (.int (((0 : Int32) + (1 : Int32)) + (1 : Int32)))]))
    obtain ⟨T2, X2, e2, st2⟩ := getF X hx hZ hown (host := "") (Or.inl (hw _ (List.mem_of_getElem? (i := 18) rfl))) Via.refl eT o_runs0 (g := (mkF m 4 #[.val (.ref a), .val (.ref tt), .val (.int (((0 : Int32) + (1 : Int32)) + (1 : Int32)))] [(.ref a), (.int (((0 : Int32) + (1 : Int32)) + (1 : Int32)))])) rfl rfl (hb hby d11_4)
    refine own_go st2 ?_
    show own_Go p e below _ (T2.setTop (mkF m 7 #[.val (.ref a), .val (.ref tt), .val (.int (((0 : Int32) + (1 : Int32)) + (1 : Int32)))] [(.ref rr), (.int (((0 : Int32) + (1 : Int32)) + (1 : Int32)))]))
    refine own_go (own_len X2 hx hZ e2 r_A0 (g := (mkF m 7 #[.val (.ref a), .val (.ref tt), .val (.int (((0 : Int32) + (1 : Int32)) + (1 : Int32)))] [(.ref rr), (.int (((0 : Int32) + (1 : Int32)) + (1 : Int32)))])) rfl rfl (hb hby d11_7) (3 : Int32) rfl) ?_
    show own_Go p e below _ (T2.setTop (mkF m 8 #[.val (.ref a), .val (.ref tt), .val (.int (((0 : Int32) + (1 : Int32)) + (1 : Int32)))] [(.int (3 : Int32)), (.int (((0 : Int32) + (1 : Int32)) + (1 : Int32)))]))
    refine own_go (fun _ => XS.icmpNo X2.here hx rfl (hb hby d11_8) rfl (XT.ii_ge_f (by decide))) ?_
    show own_Go p e below _ (T2.setTop (mkF m 11 #[.val (.ref a), .val (.ref tt), .val (.int (((0 : Int32) + (1 : Int32)) + (1 : Int32)))] []))
    show own_Go p e below (own_Out s (own_PQ h0 (.int (if t2 = 0 then 1 else if y1 = 0 then 1 else if t2 = y1 then 1 else 0))) 0 0) _
    refine own_go (fun _ => XS.aloadN X2.here hx rfl (hb hby d11_11) rfl rfl) ?_
    show own_Go p e below _ (T2.setTop (mkF m 12 #[.val (.ref a), .val (.ref tt), .val (.int (((0 : Int32) + (1 : Int32)) + (1 : Int32)))] [(.ref tt)]))
    refine own_go (fun _ => XS.iloadN X2.here hx rfl (hb hby d11_12) rfl) ?_
    show own_Go p e below _ (T2.setTop (mkF m 13 #[.val (.ref a), .val (.ref tt), .val (.int (((0 : Int32) + (1 : Int32)) + (1 : Int32)))] [(.int (((0 : Int32) + (1 : Int32)) + (1 : Int32))), (.ref tt)]))
    refine own_go (own_ldJ X2 hx hZ e2 t_A0 (g := (mkF m 13 #[.val (.ref a), .val (.ref tt), .val (.int (((0 : Int32) + (1 : Int32)) + (1 : Int32)))] [(.int (((0 : Int32) + (1 : Int32)) + (1 : Int32))), (.ref tt)])) rfl rfl (hb hby d11_13) 2 (by decide) (x := (.long t2)) rfl) ?_
    show own_Go p e below _ (T2.setTop (mkF m 14 #[.val (.ref a), .val (.ref tt), .val (.int (((0 : Int32) + (1 : Int32)) + (1 : Int32)))] [(.long t2)]))
    refine own_go (fun _ => XT.lconst X2.here hx rfl (hb hby d11_14)) ?_
    show own_Go p e below _ (T2.setTop (mkF m 15 #[.val (.ref a), .val (.ref tt), .val (.int (((0 : Int32) + (1 : Int32)) + (1 : Int32)))] [(.long (0 : Int64)), (.long t2)]))
    refine own_go (fun _ => XT.lcmp X2.here hx rfl (hb hby d11_15) rfl) ?_
    show own_Go p e below _ (T2.setTop (mkF m 16 #[.val (.ref a), .val (.ref tt), .val (.int (((0 : Int32) + (1 : Int32)) + (1 : Int32)))] [(.int (XT.cmpL t2 (0 : Int64)))]))
    refine own_iteI (fun hc0 => ?_) (fun hc0 => ?_)
    · skip
      refine own_go (fun _ => XS.ifYes X2.here hx rfl (pc0 := 16) (pc' := 45) rfl (hb hby d11_16) rfl (XT.ll_eq_t hc0) (by decide) (by decide)) ?_
      show own_Go p e below _ (T2.setTop (mkF m 45 #[.val (.ref a), .val (.ref tt), .val (.int (((0 : Int32) + (1 : Int32)) + (1 : Int32)))] []))
      refine own_go (fun _ => XT.iincV X2.here hx rfl (1 : Int32) (hb hby d11_45) rfl rfl (l' := #[.val (.ref a), .val (.ref tt), .val (.int ((((0 : Int32) + (1 : Int32)) + (1 : Int32)) + (1 : Int32)))]) rfl) ?_
      show own_Go p e below _ (T2.setTop (mkF m 48 #[.val (.ref a), .val (.ref tt), .val (.int ((((0 : Int32) + (1 : Int32)) + (1 : Int32)) + (1 : Int32)))] []))
      refine own_go (fun _ => XS.goto X2.here hx rfl (pc0 := 48) (pc' := 2) rfl (hb hby d11_48) (by decide) (by decide)) ?_
      show own_Go p e below _ (T2.setTop (mkF m 2 #[.val (.ref a), .val (.ref tt), .val (.int ((((0 : Int32) + (1 : Int32)) + (1 : Int32)) + (1 : Int32)))] []))
      exact G3 T2 X2 e2
    refine own_go (fun _ => XS.ifNo X2.here hx rfl (hb hby d11_16) rfl (XT.ll_eq_f hc0)) ?_
    show own_Go p e below _ (T2.setTop (mkF m 19 #[.val (.ref a), .val (.ref tt), .val (.int (((0 : Int32) + (1 : Int32)) + (1 : Int32)))] []))
    refine own_go (fun _ => XS.aloadN X2.here hx rfl (hb hby d11_19) rfl rfl) ?_
    show own_Go p e below _ (T2.setTop (mkF m 20 #[.val (.ref a), .val (.ref tt), .val (.int (((0 : Int32) + (1 : Int32)) + (1 : Int32)))] [(.ref a)]))
    obtain ⟨T3, X3, e3, st3⟩ := getF X2 hx hZ hown (host := "") (Or.inl (hw _ (List.mem_of_getElem? (i := 18) rfl))) Via.refl e2 o_runs0 (g := (mkF m 20 #[.val (.ref a), .val (.ref tt), .val (.int (((0 : Int32) + (1 : Int32)) + (1 : Int32)))] [(.ref a)])) rfl rfl (hb hby d11_20)
    refine own_go st3 ?_
    show own_Go p e below _ (T3.setTop (mkF m 23 #[.val (.ref a), .val (.ref tt), .val (.int (((0 : Int32) + (1 : Int32)) + (1 : Int32)))] [(.ref rr)]))
    refine own_go (fun _ => XS.iloadN X3.here hx rfl (hb hby d11_23) rfl) ?_
    show own_Go p e below _ (T3.setTop (mkF m 24 #[.val (.ref a), .val (.ref tt), .val (.int (((0 : Int32) + (1 : Int32)) + (1 : Int32)))] [(.int (((0 : Int32) + (1 : Int32)) + (1 : Int32))), (.ref rr)]))
    refine own_go (own_ldJ X3 hx hZ e3 r_A0 (g := (mkF m 24 #[.val (.ref a), .val (.ref tt), .val (.int (((0 : Int32) + (1 : Int32)) + (1 : Int32)))] [(.int (((0 : Int32) + (1 : Int32)) + (1 : Int32))), (.ref rr)])) rfl rfl (hb hby d11_24) 2 (by decide) (x := (.long y1)) rfl) ?_
    show own_Go p e below _ (T3.setTop (mkF m 25 #[.val (.ref a), .val (.ref tt), .val (.int (((0 : Int32) + (1 : Int32)) + (1 : Int32)))] [(.long y1)]))
    refine own_go (fun _ => XT.lconst X3.here hx rfl (hb hby d11_25)) ?_
    show own_Go p e below _ (T3.setTop (mkF m 26 #[.val (.ref a), .val (.ref tt), .val (.int (((0 : Int32) + (1 : Int32)) + (1 : Int32)))] [(.long (0 : Int64)), (.long y1)]))
    refine own_go (fun _ => XT.lcmp X3.here hx rfl (hb hby d11_26) rfl) ?_
    show own_Go p e below _ (T3.setTop (mkF m 27 #[.val (.ref a), .val (.ref tt), .val (.int (((0 : Int32) + (1 : Int32)) + (1 : Int32)))] [(.int (XT.cmpL y1 (0 : Int64)))]))
    refine own_iteI (fun hc1 => ?_) (fun hc1 => ?_)
    · skip
      refine own_go (fun _ => XS.ifYes X3.here hx rfl (pc0 := 27) (pc' := 45) rfl (hb hby d11_27) rfl (XT.ll_eq_t hc1) (by decide) (by decide)) ?_
      show own_Go p e below _ (T3.setTop (mkF m 45 #[.val (.ref a), .val (.ref tt), .val (.int (((0 : Int32) + (1 : Int32)) + (1 : Int32)))] []))
      refine own_go (fun _ => XT.iincV X3.here hx rfl (1 : Int32) (hb hby d11_45) rfl rfl (l' := #[.val (.ref a), .val (.ref tt), .val (.int ((((0 : Int32) + (1 : Int32)) + (1 : Int32)) + (1 : Int32)))]) rfl) ?_
      show own_Go p e below _ (T3.setTop (mkF m 48 #[.val (.ref a), .val (.ref tt), .val (.int ((((0 : Int32) + (1 : Int32)) + (1 : Int32)) + (1 : Int32)))] []))
      refine own_go (fun _ => XS.goto X3.here hx rfl (pc0 := 48) (pc' := 2) rfl (hb hby d11_48) (by decide) (by decide)) ?_
      show own_Go p e below _ (T3.setTop (mkF m 2 #[.val (.ref a), .val (.ref tt), .val (.int ((((0 : Int32) + (1 : Int32)) + (1 : Int32)) + (1 : Int32)))] []))
      exact G3 T3 X3 e3
    refine own_go (fun _ => XS.ifNo X3.here hx rfl (hb hby d11_27) rfl (XT.ll_eq_f hc1)) ?_
    show own_Go p e below _ (T3.setTop (mkF m 30 #[.val (.ref a), .val (.ref tt), .val (.int (((0 : Int32) + (1 : Int32)) + (1 : Int32)))] []))
    refine own_go (fun _ => XS.aloadN X3.here hx rfl (hb hby d11_30) rfl rfl) ?_
    show own_Go p e below _ (T3.setTop (mkF m 31 #[.val (.ref a), .val (.ref tt), .val (.int (((0 : Int32) + (1 : Int32)) + (1 : Int32)))] [(.ref tt)]))
    refine own_go (fun _ => XS.iloadN X3.here hx rfl (hb hby d11_31) rfl) ?_
    show own_Go p e below _ (T3.setTop (mkF m 32 #[.val (.ref a), .val (.ref tt), .val (.int (((0 : Int32) + (1 : Int32)) + (1 : Int32)))] [(.int (((0 : Int32) + (1 : Int32)) + (1 : Int32))), (.ref tt)]))
    refine own_go (own_ldJ X3 hx hZ e3 t_A0 (g := (mkF m 32 #[.val (.ref a), .val (.ref tt), .val (.int (((0 : Int32) + (1 : Int32)) + (1 : Int32)))] [(.int (((0 : Int32) + (1 : Int32)) + (1 : Int32))), (.ref tt)])) rfl rfl (hb hby d11_32) 2 (by decide) (x := (.long t2)) rfl) ?_
    show own_Go p e below _ (T3.setTop (mkF m 33 #[.val (.ref a), .val (.ref tt), .val (.int (((0 : Int32) + (1 : Int32)) + (1 : Int32)))] [(.long t2)]))
    refine own_go (fun _ => XS.aloadN X3.here hx rfl (hb hby d11_33) rfl rfl) ?_
    show own_Go p e below _ (T3.setTop (mkF m 34 #[.val (.ref a), .val (.ref tt), .val (.int (((0 : Int32) + (1 : Int32)) + (1 : Int32)))] [(.ref a), (.long t2)]))
    obtain ⟨T4, X4, e4, st4⟩ := getF X3 hx hZ hown (host := "") (Or.inl (hw _ (List.mem_of_getElem? (i := 18) rfl))) Via.refl e3 o_runs0 (g := (mkF m 34 #[.val (.ref a), .val (.ref tt), .val (.int (((0 : Int32) + (1 : Int32)) + (1 : Int32)))] [(.ref a), (.long t2)])) rfl rfl (hb hby d11_34)
    refine own_go st4 ?_
    show own_Go p e below _ (T4.setTop (mkF m 37 #[.val (.ref a), .val (.ref tt), .val (.int (((0 : Int32) + (1 : Int32)) + (1 : Int32)))] [(.ref rr), (.long t2)]))
    refine own_go (fun _ => XS.iloadN X4.here hx rfl (hb hby d11_37) rfl) ?_
    show own_Go p e below _ (T4.setTop (mkF m 38 #[.val (.ref a), .val (.ref tt), .val (.int (((0 : Int32) + (1 : Int32)) + (1 : Int32)))] [(.int (((0 : Int32) + (1 : Int32)) + (1 : Int32))), (.ref rr), (.long t2)]))
    refine own_go (own_ldJ X4 hx hZ e4 r_A0 (g := (mkF m 38 #[.val (.ref a), .val (.ref tt), .val (.int (((0 : Int32) + (1 : Int32)) + (1 : Int32)))] [(.int (((0 : Int32) + (1 : Int32)) + (1 : Int32))), (.ref rr), (.long t2)])) rfl rfl (hb hby d11_38) 2 (by decide) (x := (.long y1)) rfl) ?_
    show own_Go p e below _ (T4.setTop (mkF m 39 #[.val (.ref a), .val (.ref tt), .val (.int (((0 : Int32) + (1 : Int32)) + (1 : Int32)))] [(.long y1), (.long t2)]))
    refine own_go (fun _ => XT.lcmp X4.here hx rfl (hb hby d11_39) rfl) ?_
    show own_Go p e below _ (T4.setTop (mkF m 40 #[.val (.ref a), .val (.ref tt), .val (.int (((0 : Int32) + (1 : Int32)) + (1 : Int32)))] [(.int (XT.cmpL t2 y1))]))
    refine own_iteI (fun hc2 => ?_) (fun hc2 => ?_)
    · skip
      refine own_go (fun _ => XS.ifYes X4.here hx rfl (pc0 := 40) (pc' := 45) rfl (hb hby d11_40) rfl (XT.ll_eq_t hc2) (by decide) (by decide)) ?_
      show own_Go p e below _ (T4.setTop (mkF m 45 #[.val (.ref a), .val (.ref tt), .val (.int (((0 : Int32) + (1 : Int32)) + (1 : Int32)))] []))
      refine own_go (fun _ => XT.iincV X4.here hx rfl (1 : Int32) (hb hby d11_45) rfl rfl (l' := #[.val (.ref a), .val (.ref tt), .val (.int ((((0 : Int32) + (1 : Int32)) + (1 : Int32)) + (1 : Int32)))]) rfl) ?_
      show own_Go p e below _ (T4.setTop (mkF m 48 #[.val (.ref a), .val (.ref tt), .val (.int ((((0 : Int32) + (1 : Int32)) + (1 : Int32)) + (1 : Int32)))] []))
      refine own_go (fun _ => XS.goto X4.here hx rfl (pc0 := 48) (pc' := 2) rfl (hb hby d11_48) (by decide) (by decide)) ?_
      show own_Go p e below _ (T4.setTop (mkF m 2 #[.val (.ref a), .val (.ref tt), .val (.int ((((0 : Int32) + (1 : Int32)) + (1 : Int32)) + (1 : Int32)))] []))
      exact G3 T4 X4 e4
    refine own_go (fun _ => XS.ifNo X4.here hx rfl (hb hby d11_40) rfl (XT.ll_eq_f hc2)) ?_
    show own_Go p e below _ (T4.setTop (mkF m 43 #[.val (.ref a), .val (.ref tt), .val (.int (((0 : Int32) + (1 : Int32)) + (1 : Int32)))] []))
    refine own_go (fun _ => XS.iconst X4.here hx rfl (hb hby d11_43)) ?_
    show own_Go p e below _ (T4.setTop (mkF m 44 #[.val (.ref a), .val (.ref tt), .val (.int (((0 : Int32) + (1 : Int32)) + (1 : Int32)))] [(.int (0 : Int32))]))
    exact own_iret X4 hx hlk hret (Or.inr (Or.inl rfl)) rfl (hb hby d11_44) (Nat.zero_le _) (Nat.zero_le _) ⟨rfl, e4, rfl⟩
  have G1 : ∀ (T : State) (X : Stand p l e ({ frames := 0, cells := 0, slots := 0, locals := 0 } : Room) s m #[(.ref a), (.ref tt)] below meth c T [] 0 0) (eT : T.heap = h0), own_Go p e below (own_Out s (own_PQ h0 (.int (own_ag t1 y0 (own_ag t2 y1 1)))) 0 0) (T.setTop (mkF m 2 #[.val (.ref a), .val (.ref tt), .val (.int ((0 : Int32) + (1 : Int32)))] [])) := by
    intro T X eT
    refine own_go (fun _ => XS.iloadN X.here hx rfl (hb hby d11_2) rfl) ?_
    show own_Go p e below _ (T.setTop (mkF m 3 #[.val (.ref a), .val (.ref tt), .val (.int ((0 : Int32) + (1 : Int32)))] [(.int ((0 : Int32) + (1 : Int32)))]))
    refine own_go (fun _ => XS.aloadN X.here hx rfl (hb hby d11_3) rfl rfl) ?_
    show own_Go p e below _ (T.setTop (mkF m 4 #[.val (.ref a), .val (.ref tt), .val (.int ((0 : Int32) + (1 : Int32)))] [(.ref a), (.int ((0 : Int32) + (1 : Int32)))]))
    obtain ⟨T5, X5, e5, st5⟩ := getF X hx hZ hown (host := "") (Or.inl (hw _ (List.mem_of_getElem? (i := 18) rfl))) Via.refl eT o_runs0 (g := (mkF m 4 #[.val (.ref a), .val (.ref tt), .val (.int ((0 : Int32) + (1 : Int32)))] [(.ref a), (.int ((0 : Int32) + (1 : Int32)))])) rfl rfl (hb hby d11_4)
    refine own_go st5 ?_
    show own_Go p e below _ (T5.setTop (mkF m 7 #[.val (.ref a), .val (.ref tt), .val (.int ((0 : Int32) + (1 : Int32)))] [(.ref rr), (.int ((0 : Int32) + (1 : Int32)))]))
    refine own_go (own_len X5 hx hZ e5 r_A0 (g := (mkF m 7 #[.val (.ref a), .val (.ref tt), .val (.int ((0 : Int32) + (1 : Int32)))] [(.ref rr), (.int ((0 : Int32) + (1 : Int32)))])) rfl rfl (hb hby d11_7) (3 : Int32) rfl) ?_
    show own_Go p e below _ (T5.setTop (mkF m 8 #[.val (.ref a), .val (.ref tt), .val (.int ((0 : Int32) + (1 : Int32)))] [(.int (3 : Int32)), (.int ((0 : Int32) + (1 : Int32)))]))
    refine own_go (fun _ => XS.icmpNo X5.here hx rfl (hb hby d11_8) rfl (XT.ii_ge_f (by decide))) ?_
    show own_Go p e below _ (T5.setTop (mkF m 11 #[.val (.ref a), .val (.ref tt), .val (.int ((0 : Int32) + (1 : Int32)))] []))
    show own_Go p e below (own_Out s (own_PQ h0 (.int (if t1 = 0 then (own_ag t2 y1 1) else if y0 = 0 then (own_ag t2 y1 1) else if t1 = y0 then (own_ag t2 y1 1) else 0))) 0 0) _
    refine own_go (fun _ => XS.aloadN X5.here hx rfl (hb hby d11_11) rfl rfl) ?_
    show own_Go p e below _ (T5.setTop (mkF m 12 #[.val (.ref a), .val (.ref tt), .val (.int ((0 : Int32) + (1 : Int32)))] [(.ref tt)]))
    refine own_go (fun _ => XS.iloadN X5.here hx rfl (hb hby d11_12) rfl) ?_
    show own_Go p e below _ (T5.setTop (mkF m 13 #[.val (.ref a), .val (.ref tt), .val (.int ((0 : Int32) + (1 : Int32)))] [(.int ((0 : Int32) + (1 : Int32))), (.ref tt)]))
    refine own_go (own_ldJ X5 hx hZ e5 t_A0 (g := (mkF m 13 #[.val (.ref a), .val (.ref tt), .val (.int ((0 : Int32) + (1 : Int32)))] [(.int ((0 : Int32) + (1 : Int32))), (.ref tt)])) rfl rfl (hb hby d11_13) 1 (by decide) (x := (.long t1)) rfl) ?_
    show own_Go p e below _ (T5.setTop (mkF m 14 #[.val (.ref a), .val (.ref tt), .val (.int ((0 : Int32) + (1 : Int32)))] [(.long t1)]))
    refine own_go (fun _ => XT.lconst X5.here hx rfl (hb hby d11_14)) ?_
    show own_Go p e below _ (T5.setTop (mkF m 15 #[.val (.ref a), .val (.ref tt), .val (.int ((0 : Int32) + (1 : Int32)))] [(.long (0 : Int64)), (.long t1)]))
    refine own_go (fun _ => XT.lcmp X5.here hx rfl (hb hby d11_15) rfl) ?_
    show own_Go p e below _ (T5.setTop (mkF m 16 #[.val (.ref a), .val (.ref tt), .val (.int ((0 : Int32) + (1 : Int32)))] [(.int (XT.cmpL t1 (0 : Int64)))]))
    refine own_iteI (fun hc0 => ?_) (fun hc0 => ?_)
    · skip
      refine own_go (fun _ => XS.ifYes X5.here hx rfl (pc0 := 16) (pc' := 45) rfl (hb hby d11_16) rfl (XT.ll_eq_t hc0) (by decide) (by decide)) ?_
      show own_Go p e below _ (T5.setTop (mkF m 45 #[.val (.ref a), .val (.ref tt), .val (.int ((0 : Int32) + (1 : Int32)))] []))
      refine own_go (fun _ => XT.iincV X5.here hx rfl (1 : Int32) (hb hby d11_45) rfl rfl (l' := #[.val (.ref a), .val (.ref tt), .val (.int (((0 : Int32) + (1 : Int32)) + (1 : Int32)))]) rfl) ?_
      show own_Go p e below _ (T5.setTop (mkF m 48 #[.val (.ref a), .val (.ref tt), .val (.int (((0 : Int32) + (1 : Int32)) + (1 : Int32)))] []))
      refine own_go (fun _ => XS.goto X5.here hx rfl (pc0 := 48) (pc' := 2) rfl (hb hby d11_48) (by decide) (by decide)) ?_
      show own_Go p e below _ (T5.setTop (mkF m 2 #[.val (.ref a), .val (.ref tt), .val (.int (((0 : Int32) + (1 : Int32)) + (1 : Int32)))] []))
      exact G2 T5 X5 e5
    refine own_go (fun _ => XS.ifNo X5.here hx rfl (hb hby d11_16) rfl (XT.ll_eq_f hc0)) ?_
    show own_Go p e below _ (T5.setTop (mkF m 19 #[.val (.ref a), .val (.ref tt), .val (.int ((0 : Int32) + (1 : Int32)))] []))
    refine own_go (fun _ => XS.aloadN X5.here hx rfl (hb hby d11_19) rfl rfl) ?_
    show own_Go p e below _ (T5.setTop (mkF m 20 #[.val (.ref a), .val (.ref tt), .val (.int ((0 : Int32) + (1 : Int32)))] [(.ref a)]))
    obtain ⟨T6, X6, e6, st6⟩ := getF X5 hx hZ hown (host := "") (Or.inl (hw _ (List.mem_of_getElem? (i := 18) rfl))) Via.refl e5 o_runs0 (g := (mkF m 20 #[.val (.ref a), .val (.ref tt), .val (.int ((0 : Int32) + (1 : Int32)))] [(.ref a)])) rfl rfl (hb hby d11_20)
    refine own_go st6 ?_
    show own_Go p e below _ (T6.setTop (mkF m 23 #[.val (.ref a), .val (.ref tt), .val (.int ((0 : Int32) + (1 : Int32)))] [(.ref rr)]))
    refine own_go (fun _ => XS.iloadN X6.here hx rfl (hb hby d11_23) rfl) ?_
    show own_Go p e below _ (T6.setTop (mkF m 24 #[.val (.ref a), .val (.ref tt), .val (.int ((0 : Int32) + (1 : Int32)))] [(.int ((0 : Int32) + (1 : Int32))), (.ref rr)]))
    refine own_go (own_ldJ X6 hx hZ e6 r_A0 (g := (mkF m 24 #[.val (.ref a), .val (.ref tt), .val (.int ((0 : Int32) + (1 : Int32)))] [(.int ((0 : Int32) + (1 : Int32))), (.ref rr)])) rfl rfl (hb hby d11_24) 1 (by decide) (x := (.long y0)) rfl) ?_
    show own_Go p e below _ (T6.setTop (mkF m 25 #[.val (.ref a), .val (.ref tt), .val (.int ((0 : Int32) + (1 : Int32)))] [(.long y0)]))
    refine own_go (fun _ => XT.lconst X6.here hx rfl (hb hby d11_25)) ?_
    show own_Go p e below _ (T6.setTop (mkF m 26 #[.val (.ref a), .val (.ref tt), .val (.int ((0 : Int32) + (1 : Int32)))] [(.long (0 : Int64)), (.long y0)]))
    refine own_go (fun _ => XT.lcmp X6.here hx rfl (hb hby d11_26) rfl) ?_
    show own_Go p e below _ (T6.setTop (mkF m 27 #[.val (.ref a), .val (.ref tt), .val (.int ((0 : Int32) + (1 : Int32)))] [(.int (XT.cmpL y0 (0 : Int64)))]))
    refine own_iteI (fun hc1 => ?_) (fun hc1 => ?_)
    · skip
      refine own_go (fun _ => XS.ifYes X6.here hx rfl (pc0 := 27) (pc' := 45) rfl (hb hby d11_27) rfl (XT.ll_eq_t hc1) (by decide) (by decide)) ?_
      show own_Go p e below _ (T6.setTop (mkF m 45 #[.val (.ref a), .val (.ref tt), .val (.int ((0 : Int32) + (1 : Int32)))] []))
      refine own_go (fun _ => XT.iincV X6.here hx rfl (1 : Int32) (hb hby d11_45) rfl rfl (l' := #[.val (.ref a), .val (.ref tt), .val (.int (((0 : Int32) + (1 : Int32)) + (1 : Int32)))]) rfl) ?_
      show own_Go p e below _ (T6.setTop (mkF m 48 #[.val (.ref a), .val (.ref tt), .val (.int (((0 : Int32) + (1 : Int32)) + (1 : Int32)))] []))
      refine own_go (fun _ => XS.goto X6.here hx rfl (pc0 := 48) (pc' := 2) rfl (hb hby d11_48) (by decide) (by decide)) ?_
      show own_Go p e below _ (T6.setTop (mkF m 2 #[.val (.ref a), .val (.ref tt), .val (.int (((0 : Int32) + (1 : Int32)) + (1 : Int32)))] []))
      exact G2 T6 X6 e6
    refine own_go (fun _ => XS.ifNo X6.here hx rfl (hb hby d11_27) rfl (XT.ll_eq_f hc1)) ?_
    show own_Go p e below _ (T6.setTop (mkF m 30 #[.val (.ref a), .val (.ref tt), .val (.int ((0 : Int32) + (1 : Int32)))] []))
    refine own_go (fun _ => XS.aloadN X6.here hx rfl (hb hby d11_30) rfl rfl) ?_
    show own_Go p e below _ (T6.setTop (mkF m 31 #[.val (.ref a), .val (.ref tt), .val (.int ((0 : Int32) + (1 : Int32)))] [(.ref tt)]))
    refine own_go (fun _ => XS.iloadN X6.here hx rfl (hb hby d11_31) rfl) ?_
    show own_Go p e below _ (T6.setTop (mkF m 32 #[.val (.ref a), .val (.ref tt), .val (.int ((0 : Int32) + (1 : Int32)))] [(.int ((0 : Int32) + (1 : Int32))), (.ref tt)]))
    refine own_go (own_ldJ X6 hx hZ e6 t_A0 (g := (mkF m 32 #[.val (.ref a), .val (.ref tt), .val (.int ((0 : Int32) + (1 : Int32)))] [(.int ((0 : Int32) + (1 : Int32))), (.ref tt)])) rfl rfl (hb hby d11_32) 1 (by decide) (x := (.long t1)) rfl) ?_
    show own_Go p e below _ (T6.setTop (mkF m 33 #[.val (.ref a), .val (.ref tt), .val (.int ((0 : Int32) + (1 : Int32)))] [(.long t1)]))
    refine own_go (fun _ => XS.aloadN X6.here hx rfl (hb hby d11_33) rfl rfl) ?_
    show own_Go p e below _ (T6.setTop (mkF m 34 #[.val (.ref a), .val (.ref tt), .val (.int ((0 : Int32) + (1 : Int32)))] [(.ref a), (.long t1)]))
    obtain ⟨T7, X7, e7, st7⟩ := getF X6 hx hZ hown (host := "") (Or.inl (hw _ (List.mem_of_getElem? (i := 18) rfl))) Via.refl e6 o_runs0 (g := (mkF m 34 #[.val (.ref a), .val (.ref tt), .val (.int ((0 : Int32) + (1 : Int32)))] [(.ref a), (.long t1)])) rfl rfl (hb hby d11_34)
    refine own_go st7 ?_
    show own_Go p e below _ (T7.setTop (mkF m 37 #[.val (.ref a), .val (.ref tt), .val (.int ((0 : Int32) + (1 : Int32)))] [(.ref rr), (.long t1)]))
    refine own_go (fun _ => XS.iloadN X7.here hx rfl (hb hby d11_37) rfl) ?_
    show own_Go p e below _ (T7.setTop (mkF m 38 #[.val (.ref a), .val (.ref tt), .val (.int ((0 : Int32) + (1 : Int32)))] [(.int ((0 : Int32) + (1 : Int32))), (.ref rr), (.long t1)]))
    refine own_go (own_ldJ X7 hx hZ e7 r_A0 (g := (mkF m 38 #[.val (.ref a), .val (.ref tt), .val (.int ((0 : Int32) + (1 : Int32)))] [(.int ((0 : Int32) + (1 : Int32))), (.ref rr), (.long t1)])) rfl rfl (hb hby d11_38) 1 (by decide) (x := (.long y0)) rfl) ?_
    show own_Go p e below _ (T7.setTop (mkF m 39 #[.val (.ref a), .val (.ref tt), .val (.int ((0 : Int32) + (1 : Int32)))] [(.long y0), (.long t1)]))
    refine own_go (fun _ => XT.lcmp X7.here hx rfl (hb hby d11_39) rfl) ?_
    show own_Go p e below _ (T7.setTop (mkF m 40 #[.val (.ref a), .val (.ref tt), .val (.int ((0 : Int32) + (1 : Int32)))] [(.int (XT.cmpL t1 y0))]))
    refine own_iteI (fun hc2 => ?_) (fun hc2 => ?_)
    · skip
      refine own_go (fun _ => XS.ifYes X7.here hx rfl (pc0 := 40) (pc' := 45) rfl (hb hby d11_40) rfl (XT.ll_eq_t hc2) (by decide) (by decide)) ?_
      show own_Go p e below _ (T7.setTop (mkF m 45 #[.val (.ref a), .val (.ref tt), .val (.int ((0 : Int32) + (1 : Int32)))] []))
      refine own_go (fun _ => XT.iincV X7.here hx rfl (1 : Int32) (hb hby d11_45) rfl rfl (l' := #[.val (.ref a), .val (.ref tt), .val (.int (((0 : Int32) + (1 : Int32)) + (1 : Int32)))]) rfl) ?_
      show own_Go p e below _ (T7.setTop (mkF m 48 #[.val (.ref a), .val (.ref tt), .val (.int (((0 : Int32) + (1 : Int32)) + (1 : Int32)))] []))
      refine own_go (fun _ => XS.goto X7.here hx rfl (pc0 := 48) (pc' := 2) rfl (hb hby d11_48) (by decide) (by decide)) ?_
      show own_Go p e below _ (T7.setTop (mkF m 2 #[.val (.ref a), .val (.ref tt), .val (.int (((0 : Int32) + (1 : Int32)) + (1 : Int32)))] []))
      exact G2 T7 X7 e7
    refine own_go (fun _ => XS.ifNo X7.here hx rfl (hb hby d11_40) rfl (XT.ll_eq_f hc2)) ?_
    show own_Go p e below _ (T7.setTop (mkF m 43 #[.val (.ref a), .val (.ref tt), .val (.int ((0 : Int32) + (1 : Int32)))] []))
    refine own_go (fun _ => XS.iconst X7.here hx rfl (hb hby d11_43)) ?_
    show own_Go p e below _ (T7.setTop (mkF m 44 #[.val (.ref a), .val (.ref tt), .val (.int ((0 : Int32) + (1 : Int32)))] [(.int (0 : Int32))]))
    exact own_iret X7 hx hlk hret (Or.inr (Or.inl rfl)) rfl (hb hby d11_44) (Nat.zero_le _) (Nat.zero_le _) ⟨rfl, e7, rfl⟩
  have G0 : ∀ (T : State) (X : Stand p l e ({ frames := 0, cells := 0, slots := 0, locals := 0 } : Room) s m #[(.ref a), (.ref tt)] below meth c T [] 0 0) (eT : T.heap = h0), own_Go p e below (own_Out s (own_PQ h0 (.int (own_ag t0 r0 (own_ag t1 y0 (own_ag t2 y1 1))))) 0 0) (T.setTop (mkF m 2 #[.val (.ref a), .val (.ref tt), .val (.int (0 : Int32))] [])) := by
    intro T X eT
    refine own_go (fun _ => XS.iloadN X.here hx rfl (hb hby d11_2) rfl) ?_
    show own_Go p e below _ (T.setTop (mkF m 3 #[.val (.ref a), .val (.ref tt), .val (.int (0 : Int32))] [(.int (0 : Int32))]))
    refine own_go (fun _ => XS.aloadN X.here hx rfl (hb hby d11_3) rfl rfl) ?_
    show own_Go p e below _ (T.setTop (mkF m 4 #[.val (.ref a), .val (.ref tt), .val (.int (0 : Int32))] [(.ref a), (.int (0 : Int32))]))
    obtain ⟨T8, X8, e8, st8⟩ := getF X hx hZ hown (host := "") (Or.inl (hw _ (List.mem_of_getElem? (i := 18) rfl))) Via.refl eT o_runs0 (g := (mkF m 4 #[.val (.ref a), .val (.ref tt), .val (.int (0 : Int32))] [(.ref a), (.int (0 : Int32))])) rfl rfl (hb hby d11_4)
    refine own_go st8 ?_
    show own_Go p e below _ (T8.setTop (mkF m 7 #[.val (.ref a), .val (.ref tt), .val (.int (0 : Int32))] [(.ref rr), (.int (0 : Int32))]))
    refine own_go (own_len X8 hx hZ e8 r_A0 (g := (mkF m 7 #[.val (.ref a), .val (.ref tt), .val (.int (0 : Int32))] [(.ref rr), (.int (0 : Int32))])) rfl rfl (hb hby d11_7) (3 : Int32) rfl) ?_
    show own_Go p e below _ (T8.setTop (mkF m 8 #[.val (.ref a), .val (.ref tt), .val (.int (0 : Int32))] [(.int (3 : Int32)), (.int (0 : Int32))]))
    refine own_go (fun _ => XS.icmpNo X8.here hx rfl (hb hby d11_8) rfl (XT.ii_ge_f (by decide))) ?_
    show own_Go p e below _ (T8.setTop (mkF m 11 #[.val (.ref a), .val (.ref tt), .val (.int (0 : Int32))] []))
    show own_Go p e below (own_Out s (own_PQ h0 (.int (if t0 = 0 then (own_ag t1 y0 (own_ag t2 y1 1)) else if r0 = 0 then (own_ag t1 y0 (own_ag t2 y1 1)) else if t0 = r0 then (own_ag t1 y0 (own_ag t2 y1 1)) else 0))) 0 0) _
    refine own_go (fun _ => XS.aloadN X8.here hx rfl (hb hby d11_11) rfl rfl) ?_
    show own_Go p e below _ (T8.setTop (mkF m 12 #[.val (.ref a), .val (.ref tt), .val (.int (0 : Int32))] [(.ref tt)]))
    refine own_go (fun _ => XS.iloadN X8.here hx rfl (hb hby d11_12) rfl) ?_
    show own_Go p e below _ (T8.setTop (mkF m 13 #[.val (.ref a), .val (.ref tt), .val (.int (0 : Int32))] [(.int (0 : Int32)), (.ref tt)]))
    refine own_go (own_ldJ X8 hx hZ e8 t_A0 (g := (mkF m 13 #[.val (.ref a), .val (.ref tt), .val (.int (0 : Int32))] [(.int (0 : Int32)), (.ref tt)])) rfl rfl (hb hby d11_13) 0 (by decide) (x := (.long t0)) rfl) ?_
    show own_Go p e below _ (T8.setTop (mkF m 14 #[.val (.ref a), .val (.ref tt), .val (.int (0 : Int32))] [(.long t0)]))
    refine own_go (fun _ => XT.lconst X8.here hx rfl (hb hby d11_14)) ?_
    show own_Go p e below _ (T8.setTop (mkF m 15 #[.val (.ref a), .val (.ref tt), .val (.int (0 : Int32))] [(.long (0 : Int64)), (.long t0)]))
    refine own_go (fun _ => XT.lcmp X8.here hx rfl (hb hby d11_15) rfl) ?_
    show own_Go p e below _ (T8.setTop (mkF m 16 #[.val (.ref a), .val (.ref tt), .val (.int (0 : Int32))] [(.int (XT.cmpL t0 (0 : Int64)))]))
    refine own_iteI (fun hc0 => ?_) (fun hc0 => ?_)
    · skip
      refine own_go (fun _ => XS.ifYes X8.here hx rfl (pc0 := 16) (pc' := 45) rfl (hb hby d11_16) rfl (XT.ll_eq_t hc0) (by decide) (by decide)) ?_
      show own_Go p e below _ (T8.setTop (mkF m 45 #[.val (.ref a), .val (.ref tt), .val (.int (0 : Int32))] []))
      refine own_go (fun _ => XT.iincV X8.here hx rfl (1 : Int32) (hb hby d11_45) rfl rfl (l' := #[.val (.ref a), .val (.ref tt), .val (.int ((0 : Int32) + (1 : Int32)))]) rfl) ?_
      show own_Go p e below _ (T8.setTop (mkF m 48 #[.val (.ref a), .val (.ref tt), .val (.int ((0 : Int32) + (1 : Int32)))] []))
      refine own_go (fun _ => XS.goto X8.here hx rfl (pc0 := 48) (pc' := 2) rfl (hb hby d11_48) (by decide) (by decide)) ?_
      show own_Go p e below _ (T8.setTop (mkF m 2 #[.val (.ref a), .val (.ref tt), .val (.int ((0 : Int32) + (1 : Int32)))] []))
      exact G1 T8 X8 e8
    refine own_go (fun _ => XS.ifNo X8.here hx rfl (hb hby d11_16) rfl (XT.ll_eq_f hc0)) ?_
    show own_Go p e below _ (T8.setTop (mkF m 19 #[.val (.ref a), .val (.ref tt), .val (.int (0 : Int32))] []))
    refine own_go (fun _ => XS.aloadN X8.here hx rfl (hb hby d11_19) rfl rfl) ?_
    show own_Go p e below _ (T8.setTop (mkF m 20 #[.val (.ref a), .val (.ref tt), .val (.int (0 : Int32))] [(.ref a)]))
    obtain ⟨T9, X9, e9, st9⟩ := getF X8 hx hZ hown (host := "") (Or.inl (hw _ (List.mem_of_getElem? (i := 18) rfl))) Via.refl e8 o_runs0 (g := (mkF m 20 #[.val (.ref a), .val (.ref tt), .val (.int (0 : Int32))] [(.ref a)])) rfl rfl (hb hby d11_20)
    refine own_go st9 ?_
    show own_Go p e below _ (T9.setTop (mkF m 23 #[.val (.ref a), .val (.ref tt), .val (.int (0 : Int32))] [(.ref rr)]))
    refine own_go (fun _ => XS.iloadN X9.here hx rfl (hb hby d11_23) rfl) ?_
    show own_Go p e below _ (T9.setTop (mkF m 24 #[.val (.ref a), .val (.ref tt), .val (.int (0 : Int32))] [(.int (0 : Int32)), (.ref rr)]))
    refine own_go (own_ldJ X9 hx hZ e9 r_A0 (g := (mkF m 24 #[.val (.ref a), .val (.ref tt), .val (.int (0 : Int32))] [(.int (0 : Int32)), (.ref rr)])) rfl rfl (hb hby d11_24) 0 (by decide) (x := (.long r0)) rfl) ?_
    show own_Go p e below _ (T9.setTop (mkF m 25 #[.val (.ref a), .val (.ref tt), .val (.int (0 : Int32))] [(.long r0)]))
    refine own_go (fun _ => XT.lconst X9.here hx rfl (hb hby d11_25)) ?_
    show own_Go p e below _ (T9.setTop (mkF m 26 #[.val (.ref a), .val (.ref tt), .val (.int (0 : Int32))] [(.long (0 : Int64)), (.long r0)]))
    refine own_go (fun _ => XT.lcmp X9.here hx rfl (hb hby d11_26) rfl) ?_
    show own_Go p e below _ (T9.setTop (mkF m 27 #[.val (.ref a), .val (.ref tt), .val (.int (0 : Int32))] [(.int (XT.cmpL r0 (0 : Int64)))]))
    refine own_iteI (fun hc1 => ?_) (fun hc1 => ?_)
    · skip
      refine own_go (fun _ => XS.ifYes X9.here hx rfl (pc0 := 27) (pc' := 45) rfl (hb hby d11_27) rfl (XT.ll_eq_t hc1) (by decide) (by decide)) ?_
      show own_Go p e below _ (T9.setTop (mkF m 45 #[.val (.ref a), .val (.ref tt), .val (.int (0 : Int32))] []))
      refine own_go (fun _ => XT.iincV X9.here hx rfl (1 : Int32) (hb hby d11_45) rfl rfl (l' := #[.val (.ref a), .val (.ref tt), .val (.int ((0 : Int32) + (1 : Int32)))]) rfl) ?_
      show own_Go p e below _ (T9.setTop (mkF m 48 #[.val (.ref a), .val (.ref tt), .val (.int ((0 : Int32) + (1 : Int32)))] []))
      refine own_go (fun _ => XS.goto X9.here hx rfl (pc0 := 48) (pc' := 2) rfl (hb hby d11_48) (by decide) (by decide)) ?_
      show own_Go p e below _ (T9.setTop (mkF m 2 #[.val (.ref a), .val (.ref tt), .val (.int ((0 : Int32) + (1 : Int32)))] []))
      exact G1 T9 X9 e9
    refine own_go (fun _ => XS.ifNo X9.here hx rfl (hb hby d11_27) rfl (XT.ll_eq_f hc1)) ?_
    show own_Go p e below _ (T9.setTop (mkF m 30 #[.val (.ref a), .val (.ref tt), .val (.int (0 : Int32))] []))
    refine own_go (fun _ => XS.aloadN X9.here hx rfl (hb hby d11_30) rfl rfl) ?_
    show own_Go p e below _ (T9.setTop (mkF m 31 #[.val (.ref a), .val (.ref tt), .val (.int (0 : Int32))] [(.ref tt)]))
    refine own_go (fun _ => XS.iloadN X9.here hx rfl (hb hby d11_31) rfl) ?_
    show own_Go p e below _ (T9.setTop (mkF m 32 #[.val (.ref a), .val (.ref tt), .val (.int (0 : Int32))] [(.int (0 : Int32)), (.ref tt)]))
    refine own_go (own_ldJ X9 hx hZ e9 t_A0 (g := (mkF m 32 #[.val (.ref a), .val (.ref tt), .val (.int (0 : Int32))] [(.int (0 : Int32)), (.ref tt)])) rfl rfl (hb hby d11_32) 0 (by decide) (x := (.long t0)) rfl) ?_
    show own_Go p e below _ (T9.setTop (mkF m 33 #[.val (.ref a), .val (.ref tt), .val (.int (0 : Int32))] [(.long t0)]))
    refine own_go (fun _ => XS.aloadN X9.here hx rfl (hb hby d11_33) rfl rfl) ?_
    show own_Go p e below _ (T9.setTop (mkF m 34 #[.val (.ref a), .val (.ref tt), .val (.int (0 : Int32))] [(.ref a), (.long t0)]))
    obtain ⟨T10, X10, e10, st10⟩ := getF X9 hx hZ hown (host := "") (Or.inl (hw _ (List.mem_of_getElem? (i := 18) rfl))) Via.refl e9 o_runs0 (g := (mkF m 34 #[.val (.ref a), .val (.ref tt), .val (.int (0 : Int32))] [(.ref a), (.long t0)])) rfl rfl (hb hby d11_34)
    refine own_go st10 ?_
    show own_Go p e below _ (T10.setTop (mkF m 37 #[.val (.ref a), .val (.ref tt), .val (.int (0 : Int32))] [(.ref rr), (.long t0)]))
    refine own_go (fun _ => XS.iloadN X10.here hx rfl (hb hby d11_37) rfl) ?_
    show own_Go p e below _ (T10.setTop (mkF m 38 #[.val (.ref a), .val (.ref tt), .val (.int (0 : Int32))] [(.int (0 : Int32)), (.ref rr), (.long t0)]))
    refine own_go (own_ldJ X10 hx hZ e10 r_A0 (g := (mkF m 38 #[.val (.ref a), .val (.ref tt), .val (.int (0 : Int32))] [(.int (0 : Int32)), (.ref rr), (.long t0)])) rfl rfl (hb hby d11_38) 0 (by decide) (x := (.long r0)) rfl) ?_
    show own_Go p e below _ (T10.setTop (mkF m 39 #[.val (.ref a), .val (.ref tt), .val (.int (0 : Int32))] [(.long r0), (.long t0)]))
    refine own_go (fun _ => XT.lcmp X10.here hx rfl (hb hby d11_39) rfl) ?_
    show own_Go p e below _ (T10.setTop (mkF m 40 #[.val (.ref a), .val (.ref tt), .val (.int (0 : Int32))] [(.int (XT.cmpL t0 r0))]))
    refine own_iteI (fun hc2 => ?_) (fun hc2 => ?_)
    · skip
      refine own_go (fun _ => XS.ifYes X10.here hx rfl (pc0 := 40) (pc' := 45) rfl (hb hby d11_40) rfl (XT.ll_eq_t hc2) (by decide) (by decide)) ?_
      show own_Go p e below _ (T10.setTop (mkF m 45 #[.val (.ref a), .val (.ref tt), .val (.int (0 : Int32))] []))
      refine own_go (fun _ => XT.iincV X10.here hx rfl (1 : Int32) (hb hby d11_45) rfl rfl (l' := #[.val (.ref a), .val (.ref tt), .val (.int ((0 : Int32) + (1 : Int32)))]) rfl) ?_
      show own_Go p e below _ (T10.setTop (mkF m 48 #[.val (.ref a), .val (.ref tt), .val (.int ((0 : Int32) + (1 : Int32)))] []))
      refine own_go (fun _ => XS.goto X10.here hx rfl (pc0 := 48) (pc' := 2) rfl (hb hby d11_48) (by decide) (by decide)) ?_
      show own_Go p e below _ (T10.setTop (mkF m 2 #[.val (.ref a), .val (.ref tt), .val (.int ((0 : Int32) + (1 : Int32)))] []))
      exact G1 T10 X10 e10
    refine own_go (fun _ => XS.ifNo X10.here hx rfl (hb hby d11_40) rfl (XT.ll_eq_f hc2)) ?_
    show own_Go p e below _ (T10.setTop (mkF m 43 #[.val (.ref a), .val (.ref tt), .val (.int (0 : Int32))] []))
    refine own_go (fun _ => XS.iconst X10.here hx rfl (hb hby d11_43)) ?_
    show own_Go p e below _ (T10.setTop (mkF m 44 #[.val (.ref a), .val (.ref tt), .val (.int (0 : Int32))] [(.int (0 : Int32))]))
    exact own_iret X10 hx hlk hret (Or.inr (Or.inl rfl)) rfl (hb hby d11_44) (Nat.zero_le _) (Nat.zero_le _) ⟨rfl, e10, rfl⟩
  refine own_go (fun _ => XS.iconst X.here hx rfl (hb hby d11_0)) ?_
  show own_Go p e below _ (T.setTop (mkF m 1 #[.val (.ref a), .val (.ref tt), .unset] [(.int (0 : Int32))]))
  refine own_go (fun _ => XS.istoreN X.here hx rfl (hb hby d11_1) rfl (l' := #[.val (.ref a), .val (.ref tt), .val (.int (0 : Int32))]) rfl) ?_
  show own_Go p e below _ (T.setTop (mkF m 2 #[.val (.ref a), .val (.ref tt), .val (.int (0 : Int32))] []))
  exact G0 T X eT
theorem d13_0 : decode prog_25_method_5_code 0 = .ok (.aload_n 0, 1) := by decide +kernel
theorem d13_1 : decode prog_25_method_5_code 1 = .ok (.getfield 26, 3) := by decide +kernel
theorem d13_4 : decode prog_25_method_5_code 4 = .ok (.aload_n 0, 1) := by decide +kernel
theorem d13_5 : decode prog_25_method_5_code 5 = .ok (.getfield 29, 3) := by decide +kernel
theorem d13_8 : decode prog_25_method_5_code 8 = .ok (.iconst 1, 1) := by decide +kernel
theorem d13_9 : decode prog_25_method_5_code 9 = .ok (.isub, 1) := by decide +kernel
theorem d13_10 : decode prog_25_method_5_code 10 = .ok (.laload, 1) := by decide +kernel
theorem d13_11 : decode prog_25_method_5_code 11 = .ok (.lreturn, 1) := by decide +kernel
set_option maxRecDepth 65536 in
set_option maxHeartbeats 40000000 in
theorem own_theMark_con (l : Launch) (Z : State) (a0 : Array Value) (hw : ∀ d ∈ tables_1, d.before a0 Z = true) (a rr mm hh : Addr) (us ms hs : List Value) (k pr ch : Int32) (i : Nat) (q : Int64) (h0 : Heap) (I0 : own_Runs Z h0 a rr mm hh us ms hs k pr ch) (hk : k.toInt = ((i + 1 : Nat) : Int)) (hq : ms[i]? = some (.long q)) (ws : List Jvm.Cond) :
    own_Con l Z (⟨"tidemark/io/Runs", "mark", "()J"⟩ : MethodName) prog_25_method_5_code 1 (some .long) ({ frames := 0, cells := 0, slots := 0, locals := 0 } : Room) #[(.ref a)] h0 (own_PQ h0 (.long q)) ws := by
  refine own_con (F := fun m => (mkF m 0 #[.val (.ref a)] [])) (own_pn (by first | (simp [plainName, overriddenIn]; done) | decide +kernel)) (fun m => by first | (simp [entryFrame, mkF, argsToLocals, Value.category]; done) | rfl) ?_
  intro p e s m below meth c T X hx hby hml hZ hown hnm hret hlk eT
  show own_Go p e below (own_Out s (own_PQ h0 (.long q)) ({ frames := 0, cells := 0, slots := 0, locals := 0 } : Room).cells ({ frames := 0, cells := 0, slots := 0, locals := 0 } : Room).slots) (T.setTop (mkF m 0 #[.val (.ref a)] []))
  obtain ⟨⟨o_E0, r_E0, r_A0, m_A0, h_A0⟩, ⟨o_self0, o_runs0, o_marks0, o_marked0, o_heard0, o_preceded0, o_chosen0⟩, ⟨ne_a_rr, ne_a_mm, ne_a_hh, ne_rr_mm, ne_rr_hh, ne_mm_hh⟩⟩ := I0
  refine own_go (fun _ => XS.aloadN X.here hx rfl (hb hby d13_0) rfl rfl) ?_
  show own_Go p e below _ (T.setTop (mkF m 1 #[.val (.ref a)] [(.ref a)]))
  obtain ⟨T1, X1, e1, st1⟩ := getF X hx hZ hown (host := "") (Or.inl (hw _ (List.mem_of_getElem? (i := 20) rfl))) Via.refl eT o_marks0 (g := (mkF m 1 #[.val (.ref a)] [(.ref a)])) rfl rfl (hb hby d13_1)
  refine own_go st1 ?_
  show own_Go p e below _ (T1.setTop (mkF m 4 #[.val (.ref a)] [(.ref mm)]))
  refine own_go (fun _ => XS.aloadN X1.here hx rfl (hb hby d13_4) rfl rfl) ?_
  show own_Go p e below _ (T1.setTop (mkF m 5 #[.val (.ref a)] [(.ref a), (.ref mm)]))
  obtain ⟨T2, X2, e2, st2⟩ := getF X1 hx hZ hown (host := "") (Or.inl (hw _ (List.mem_of_getElem? (i := 22) rfl))) Via.refl e1 o_marked0 (g := (mkF m 5 #[.val (.ref a)] [(.ref a), (.ref mm)])) rfl rfl (hb hby d13_5)
  refine own_go st2 ?_
  show own_Go p e below _ (T2.setTop (mkF m 8 #[.val (.ref a)] [(.int k), (.ref mm)]))
  refine own_go (fun _ => XS.iconst X2.here hx rfl (hb hby d13_8)) ?_
  show own_Go p e below _ (T2.setTop (mkF m 9 #[.val (.ref a)] [(.int (1 : Int32)), (.int k), (.ref mm)]))
  refine own_go (fun _ => XS.isub X2.here hx rfl (hb hby d13_9) rfl) ?_
  show own_Go p e below _ (T2.setTop (mkF m 10 #[.val (.ref a)] [(.int (k - (1 : Int32))), (.ref mm)]))
  have hi : (k - (1 : Int32)).toInt = (i : Int) := by
    have d := c_isub k 1
    have b1 := k.toInt_lt
    have b2 := (k - (1 : Int32)).toInt_lt
    have b3 := (k - (1 : Int32)).le_toInt
    have l1 : (1 : Int32).toInt = 1 := by decide
    rw [l1] at d; omega
  refine own_go (own_ldJ X2 hx hZ e2 m_A0 (g := (mkF m 10 #[.val (.ref a)] [(.int (k - (1 : Int32))), (.ref mm)])) rfl rfl (hb hby d13_10) i hi (x := (.long q)) hq) ?_
  show own_Go p e below _ (T2.setTop (mkF m 11 #[.val (.ref a)] [(.long q)]))
  exact own_lret X2 hx hlk hret (hb hby d13_11) (Nat.zero_le _) (Nat.zero_le _) ⟨rfl, e2, rfl⟩
theorem d12_0 : decode prog_25_method_6_code 0 = .ok (.aload_n 0, 1) := by decide +kernel
theorem d12_1 : decode prog_25_method_6_code 1 = .ok (.getfield 36, 3) := by decide +kernel
theorem d12_4 : decode prog_25_method_6_code 4 = .ok (.iload_n 1, 1) := by decide +kernel
theorem d12_5 : decode prog_25_method_6_code 5 = .ok (.laload, 1) := by decide +kernel
theorem d12_6 : decode prog_25_method_6_code 6 = .ok (.aload_n 0, 1) := by decide +kernel
theorem d12_7 : decode prog_25_method_6_code 7 = .ok (.invokevirtual 79, 3) := by decide +kernel
theorem d12_10 : decode prog_25_method_6_code 10 = .ok (.lcmp, 1) := by decide +kernel
theorem d12_11 : decode prog_25_method_6_code 11 = .ok (.ifCond .ne 7, 3) := by decide +kernel
theorem d12_18 : decode prog_25_method_6_code 18 = .ok (.aload_n 0, 1) := by decide +kernel
theorem d12_19 : decode prog_25_method_6_code 19 = .ok (.getfield 22, 3) := by decide +kernel
theorem d12_22 : decode prog_25_method_6_code 22 = .ok (.invokevirtual 82, 3) := by decide +kernel
theorem d12_25 : decode prog_25_method_6_code 25 = .ok (.checkcast 83, 3) := by decide +kernel
theorem d12_28 : decode prog_25_method_6_code 28 = .ok (.areturn, 1) := by decide +kernel
set_option maxRecDepth 65536 in
set_option maxHeartbeats 40000000 in
theorem own_toTell_con (l : Launch) (Z : State) (a0 : Array Value) (hw : ∀ d ∈ tables_1, d.before a0 Z = true) (a rr mm hh : Addr) (r0 y0 y1 : Int64) (ms : List Value) (k pr ch : Int32) (i : Nat) (q : Int64) (n0 : Nat) (h0 : Heap) (I0 : own_Runs Z h0 a rr mm hh [.long r0, .long y0, .long y1] ms [.long 0, .long 1, .long 0] k pr ch) (hk : k.toInt = ((i + 1 : Nat) : Int)) (hq : ms[i]? = some (.long q)) (hq0 : q ≠ 0) (ws : List Jvm.Cond) :
    own_Con l Z (⟨"tidemark/io/Runs", "toTell", "(I)[J"⟩ : MethodName) prog_25_method_6_code 2 (some (.array .long)) ({ frames := 1, cells := 1, slots := 3, locals := 60 } : Room) #[(.ref a), (.int (2 : Int32))] h0 (fun v h L => ∃ r, v = some (.ref r) ∧ Fr n0 L ∧ Keep h0 h [] ∧ own_AV Z h r .long [.long r0, .long y0, .long y1]) ws := by
  refine own_con (F := fun m => (mkF m 0 #[.val (.ref a), .val (.int (2 : Int32))] [])) (own_pn (by first | (simp [plainName, overriddenIn]; done) | decide +kernel)) (fun m => by first | (simp [entryFrame, mkF, argsToLocals, Value.category]; done) | rfl) ?_
  intro p e s m below meth c T X hx hby hml hZ hown hnm hret hlk eT
  show own_Go p e below (own_Out s (fun v h L => ∃ r, v = some (.ref r) ∧ Fr n0 L ∧ Keep h0 h [] ∧ own_AV Z h r .long [.long r0, .long y0, .long y1]) ({ frames := 1, cells := 1, slots := 3, locals := 60 } : Room).cells ({ frames := 1, cells := 1, slots := 3, locals := 60 } : Room).slots) (T.setTop (mkF m 0 #[.val (.ref a), .val (.int (2 : Int32))] []))
  have I1 := I0
  obtain ⟨⟨o_E0, r_E0, r_A0, m_A0, h_A0⟩, ⟨o_self0, o_runs0, o_marks0, o_marked0, o_heard0, o_preceded0, o_chosen0⟩, ⟨ne_a_rr, ne_a_mm, ne_a_hh, ne_rr_mm, ne_rr_hh, ne_mm_hh⟩⟩ := I0
  have N0 := Fr.nil n0
  have K0 := Keep.refl h0 []
  refine own_go (fun _ => XS.aloadN X.here hx rfl (hb hby d12_0) rfl rfl) ?_
  show own_Go p e below _ (T.setTop (mkF m 1 #[.val (.ref a), .val (.int (2 : Int32))] [(.ref a)]))
  obtain ⟨T1, X1, e1, st1⟩ := getF X hx hZ hown (host := "") (Or.inl (hw _ (List.mem_of_getElem? (i := 33) rfl))) Via.refl eT o_heard0 (g := (mkF m 1 #[.val (.ref a), .val (.int (2 : Int32))] [(.ref a)])) rfl rfl (hb hby d12_1)
  refine own_go st1 ?_
  show own_Go p e below _ (T1.setTop (mkF m 4 #[.val (.ref a), .val (.int (2 : Int32))] [(.ref hh)]))
  refine own_go (fun _ => XS.iloadN X1.here hx rfl (hb hby d12_4) rfl) ?_
  show own_Go p e below _ (T1.setTop (mkF m 5 #[.val (.ref a), .val (.int (2 : Int32))] [(.int (2 : Int32)), (.ref hh)]))
  refine own_go (own_ldJ X1 hx hZ e1 h_A0 (g := (mkF m 5 #[.val (.ref a), .val (.int (2 : Int32))] [(.int (2 : Int32)), (.ref hh)])) rfl rfl (hb hby d12_5) 2 (by decide) (x := (.long (0 : Int64))) rfl) ?_
  show own_Go p e below _ (T1.setTop (mkF m 6 #[.val (.ref a), .val (.int (2 : Int32))] [(.long (0 : Int64))]))
  refine own_go (fun _ => XS.aloadN X1.here hx rfl (hb hby d12_6) rfl rfl) ?_
  show own_Go p e below _ (T1.setTop (mkF m 7 #[.val (.ref a), .val (.int (2 : Int32))] [(.ref a), (.long (0 : Int64))]))
  obtain ⟨_, T2, L2, X2, ⟨rfl, eh2, rfl⟩, st2⟩ := own_callV X1 hx hZ hown (argsL := []) (rest := [(.long (0 : Int64))]) (own_theMark_con l Z a0 hw a rr mm hh _ ms _ k pr ch i q h0 I1 hk hq []) e1 o_E0 (hw _ (List.mem_of_getElem? (i := 71) rfl)) (hw _ (List.mem_of_getElem? (i := 72) rfl)) (hw _ (List.mem_of_getElem? (i := 74) rfl)) (hw _ (List.mem_of_getElem? (i := 73) rfl)) (hw _ (List.mem_of_getElem? (i := 9) rfl)) (hw _ (List.mem_of_getElem? (i := 75) rfl)) (notFace_of_selects (args := #[]) (mvT hZ (hw _ (List.mem_of_getElem? (i := 74) rfl)))) (by decide) (by decide +kernel : parseMethodDescriptor "()J" = some ⟨[], some .long⟩) rfl (g := (mkF m 7 #[.val (.ref a), .val (.int (2 : Int32))] [(.ref a), (.long (0 : Int64))])) rfl (by rw [hml]; rfl) rfl 2 (by show 2 * 0 + _ ≤ _; exact Nat.le_of_eq rfl) (hb hby d12_7) (by decide) (by decide) (by decide) (by decide)
  rw [List.append_nil] at X2
  refine own_go st2 ?_
  show own_Go p e below _ (T2.setTop (mkF m 10 #[.val (.ref a), .val (.int (2 : Int32))] [(.long q), (.long (0 : Int64))]))
  refine own_go (fun _ => XT.lcmp X2.here hx rfl (hb hby d12_10) rfl) ?_
  show own_Go p e below _ (T2.setTop (mkF m 11 #[.val (.ref a), .val (.int (2 : Int32))] [(.int (XT.cmpL (0 : Int64) q))]))
  refine own_go (fun _ => XS.ifYes X2.here hx rfl (pc0 := 11) (pc' := 18) rfl (hb hby d12_11) rfl (XT.ll_ne_t (fun z => hq0 z.symm)) (by decide) (by decide)) ?_
  show own_Go p e below _ (T2.setTop (mkF m 18 #[.val (.ref a), .val (.int (2 : Int32))] []))
  refine own_go (fun _ => XS.aloadN X2.here hx rfl (hb hby d12_18) rfl rfl) ?_
  show own_Go p e below _ (T2.setTop (mkF m 19 #[.val (.ref a), .val (.int (2 : Int32))] [(.ref a)]))
  obtain ⟨T3, X3, e3, st3⟩ := getF X2 hx hZ hown (host := "") (Or.inl (hw _ (List.mem_of_getElem? (i := 18) rfl))) Via.refl eh2 o_runs0 (g := (mkF m 19 #[.val (.ref a), .val (.int (2 : Int32))] [(.ref a)])) rfl rfl (hb hby d12_19)
  refine own_go st3 ?_
  show own_Go p e below _ (T3.setTop (mkF m 22 #[.val (.ref a), .val (.int (2 : Int32))] [(.ref rr)]))
  obtain ⟨T4, h4, X4, e4, E4, A4, C4, st4⟩ := own_clone X3 hx hZ hown (ad := "[J") (hw _ (List.mem_of_getElem? (i := 76) rfl)) (hw _ (List.mem_of_getElem? (i := 77) rfl)) (hw _ (List.mem_of_getElem? (i := 81) rfl)) (hw _ (List.mem_of_getElem? (i := 79) rfl)) (hw _ (List.mem_of_getElem? (i := 80) rfl)) (hw _ (List.mem_of_getElem? (i := 82) rfl)) e3 r_A0 r_E0 (g := (mkF m 22 #[.val (.ref a), .val (.int (2 : Int32))] [(.ref rr)])) rfl (by rw [hml]; rfl) rfl (hb hby d12_22) 0 3 (by show 2 * 0 + _ ≤ _; exact Nat.le_of_eq rfl) (by decide) (by decide) (by simp) (by decide) (by decide)
  have K4 := K0.ext E4
  refine own_go st4 ?_
  show own_Go p e below _ (T4.setTop (mkF m 25 #[.val (.ref a), .val (.int (2 : Int32))] [(.ref h0.size)]))
  obtain ⟨T5, X5, e5, st5⟩ := castY X4 hx hZ hown (hw _ (List.mem_of_getElem? (i := 83) rfl)) e4 (Ins.self C4) (g := (mkF m 25 #[.val (.ref a), .val (.int (2 : Int32))] [(.ref h0.size)])) rfl rfl (hb hby d12_25)
  refine own_go st5 ?_
  show own_Go p e below _ (T5.setTop (mkF m 28 #[.val (.ref a), .val (.int (2 : Int32))] [(.ref h0.size)]))
  exact own_aret X5 hx hlk hret rfl rfl (hb hby d12_28) (by decide) (by decide) (by rw [e5]; exact ⟨_, rfl, N0, K4, A4⟩)
theorem own_ok01 (t r : Int64) : own_ok t r = 0 ∨ own_ok t r = 1 := by
  unfold own_ok; repeat' split
  all_goals simp
theorem own_ag_ok (t r : Int64) (k : Int32) : own_ag t r k = if own_ok t r = 0 then 0 else k := by
  unfold own_ag own_ok; repeat' split
  all_goals simp_all
theorem own_nn (x : Int64) : 0 ≤ (x &&& (9223372036854775807 : Int64)).toInt := by
  have h : (x &&& (9223372036854775807 : Int64)).toBitVec.msb = false := by
    rw [Int64.toBitVec_and, BitVec.msb_and]
    have : (9223372036854775807 : Int64).toBitVec.msb = false := by decide
    rw [this, Bool.and_false]
  rw [BitVec.msb_eq_toInt] at h
  have : ¬ (x &&& (9223372036854775807 : Int64)).toBitVec.toInt < 0 := by simpa using h
  exact Int.not_lt.mp this
theorem own_pos (x : Int64) (h : ¬ (x &&& (9223372036854775807 : Int64)) = (0 : Int64)) : 0 < (x &&& (9223372036854775807 : Int64)) := by
  have := own_nn x
  have q : (x &&& (9223372036854775807 : Int64)).toInt ≠ 0 := fun w => h (Int64.toInt_inj.mp w)
  rw [Int64.lt_iff_toInt_lt]; show 0 < (x &&& (9223372036854775807 : Int64)).toInt
  omega
def own_Q1 (n0 : Nat) (v : Option Value) (h : Heap) (L : List Loc) : Prop := v = some (.int 1) ∧ Fr n0 L
set_option maxRecDepth 65536 in
set_option maxHeartbeats 40000000 in
theorem own_main_con (l : Launch) (Z : State) (a0 : Array Value) (hw : ∀ d ∈ tables_1, d.before a0 Z = true) (x0 : Int64) (x1 : Int64) (x2 : Int64) (x3 : Int64) (x4 : Int64) (x5 : Int64)  (h0 : Heap) (ws : List Jvm.Cond) :
    own_Con l Z x code maxLocals ret room_1 #[(.long x0), (.long x1), (.long x2), (.long x3), (.long x4), (.long x5)] h0 (own_Q1 h0.size) ws := by
  refine own_con (F := fun m => (mkF m 0 #[.val (.long x0), .second, .val (.long x1), .second, .val (.long x2), .second, .val (.long x3), .second, .val (.long x4), .second, .val (.long x5), .second, .unset, .unset, .unset, .unset, .unset, .unset, .unset, .unset, .unset] [])) (own_pn (by first | (simp [plainName, overriddenIn]; done) | decide +kernel)) (fun m => by first | (simp [entryFrame, mkF, argsToLocals, Value.category, maxLocals]; done) | rfl) ?_
  intro p e s m below meth c T X hx hby hml hZ hown hnm hret hlk eT
  show own_Go p e below (own_Out s (own_Q1 h0.size) room_1.cells room_1.slots) (T.setTop (mkF m 0 #[.val (.long x0), .second, .val (.long x1), .second, .val (.long x2), .second, .val (.long x3), .second, .val (.long x4), .second, .val (.long x5), .second, .unset, .unset, .unset, .unset, .unset, .unset, .unset, .unset, .unset] []))
  have N0 := Fr.nil h0.size
  have tail : ∀ (r0 : Int64), 0 < r0 → own_Go p e below (own_Out s (own_Q1 h0.size) room_1.cells room_1.slots) (T.setTop (mkF m 17 #[.val (.long x0), .second, .val (.long x1), .second, .val (.long x2), .second, .val (.long x3), .second, .val (.long x4), .second, .val (.long x5), .second, .val (.long r0), .second, .unset, .unset, .unset, .unset, .unset, .unset, .unset] [])) := by
    intro r0 hr
    show own_Go p e below _ (T.setTop (mkF m 17 #[.val (.long x0), .second, .val (.long x1), .second, .val (.long x2), .second, .val (.long x3), .second, .val (.long x4), .second, .val (.long x5), .second, .val (.long r0), .second, .unset, .unset, .unset, .unset, .unset, .unset, .unset] []))
    refine own_go (fun _ => XS.iconst X.here hx rfl (hb hby at_17)) ?_
    show own_Go p e below _ (T.setTop (mkF m 18 #[.val (.long x0), .second, .val (.long x1), .second, .val (.long x2), .second, .val (.long x3), .second, .val (.long x4), .second, .val (.long x5), .second, .val (.long r0), .second, .unset, .unset, .unset, .unset, .unset, .unset, .unset] [(.int (3 : Int32))]))
    obtain ⟨T1, h1, X1, e1, E1, A1, C1, st1⟩ := own_newAE X hx hZ (aty := .long) (hw _ (List.mem_of_getElem? (i := 1) rfl)) eT (g := (mkF m 18 #[.val (.long x0), .second, .val (.long x1), .second, .val (.long x2), .second, .val (.long x3), .second, .val (.long x4), .second, .val (.long x5), .second, .val (.long r0), .second, .unset, .unset, .unset, .unset, .unset, .unset, .unset] [(.int (3 : Int32))])) rfl (hb hby at_18) rfl 3 3 (by decide) (by decide) (by decide) (by decide) (by decide) (ad := "[J") (by first | rfl | decide)
    obtain ⟨a1, q1⟩ : ∃ z, z = h0.size := ⟨_, rfl⟩
    rw [← q1] at A1 C1 st1
    refine own_go st1 ?_
    show own_Go p e below _ (T1.setTop (mkF m 20 #[.val (.long x0), .second, .val (.long x1), .second, .val (.long x2), .second, .val (.long x3), .second, .val (.long x4), .second, .val (.long x5), .second, .val (.long r0), .second, .unset, .unset, .unset, .unset, .unset, .unset, .unset] [(.ref a1)]))
    have g_a1 : h0.size ≤ a1 := by rw [q1]; exact Nat.le_refl _
    refine own_go (fun _ => XS.dup X1.here hx rfl (hb hby at_20) rfl rfl) ?_
    show own_Go p e below _ (T1.setTop (mkF m 21 #[.val (.long x0), .second, .val (.long x1), .second, .val (.long x2), .second, .val (.long x3), .second, .val (.long x4), .second, .val (.long x5), .second, .val (.long r0), .second, .unset, .unset, .unset, .unset, .unset, .unset, .unset] [(.ref a1), (.ref a1)]))
    refine own_go (fun _ => XS.iconst X1.here hx rfl (hb hby at_21)) ?_
    show own_Go p e below _ (T1.setTop (mkF m 22 #[.val (.long x0), .second, .val (.long x1), .second, .val (.long x2), .second, .val (.long x3), .second, .val (.long x4), .second, .val (.long x5), .second, .val (.long r0), .second, .unset, .unset, .unset, .unset, .unset, .unset, .unset] [(.int (0 : Int32)), (.ref a1), (.ref a1)]))
    refine own_go (fun _ => XT.lconst X1.here hx rfl (hb hby at_22)) ?_
    show own_Go p e below _ (T1.setTop (mkF m 23 #[.val (.long x0), .second, .val (.long x1), .second, .val (.long x2), .second, .val (.long x3), .second, .val (.long x4), .second, .val (.long x5), .second, .val (.long r0), .second, .unset, .unset, .unset, .unset, .unset, .unset, .unset] [(.long (0 : Int64)), (.int (0 : Int32)), (.ref a1), (.ref a1)]))
    obtain ⟨T2, h2, X2, e2, W2, A2, st2⟩ := own_stJ X1 hx hZ e1 A1 (g := (mkF m 23 #[.val (.long x0), .second, .val (.long x1), .second, .val (.long x2), .second, .val (.long x3), .second, .val (.long x4), .second, .val (.long x5), .second, .val (.long r0), .second, .unset, .unset, .unset, .unset, .unset, .unset, .unset] [(.long (0 : Int64)), (.int (0 : Int32)), (.ref a1), (.ref a1)])) rfl rfl (hb hby at_23) 0 (by decide) (by simp)
    have N2 := Fr.snoc X2 N0 g_a1
    have t_E_2 := C1.wr W2
    refine own_go st2 ?_
    show own_Go p e below _ (T2.setTop (mkF m 24 #[.val (.long x0), .second, .val (.long x1), .second, .val (.long x2), .second, .val (.long x3), .second, .val (.long x4), .second, .val (.long x5), .second, .val (.long r0), .second, .unset, .unset, .unset, .unset, .unset, .unset, .unset] [(.ref a1)]))
    refine own_go (fun _ => XS.dup X2.here hx rfl (hb hby at_24) rfl rfl) ?_
    show own_Go p e below _ (T2.setTop (mkF m 25 #[.val (.long x0), .second, .val (.long x1), .second, .val (.long x2), .second, .val (.long x3), .second, .val (.long x4), .second, .val (.long x5), .second, .val (.long r0), .second, .unset, .unset, .unset, .unset, .unset, .unset, .unset] [(.ref a1), (.ref a1)]))
    refine own_go (fun _ => XS.iconst X2.here hx rfl (hb hby at_25)) ?_
    show own_Go p e below _ (T2.setTop (mkF m 26 #[.val (.long x0), .second, .val (.long x1), .second, .val (.long x2), .second, .val (.long x3), .second, .val (.long x4), .second, .val (.long x5), .second, .val (.long r0), .second, .unset, .unset, .unset, .unset, .unset, .unset, .unset] [(.int (1 : Int32)), (.ref a1), (.ref a1)]))
    refine own_go (fun _ => XT.lloadN X2.here hx rfl (hb hby at_26) rfl) ?_
    show own_Go p e below _ (T2.setTop (mkF m 27 #[.val (.long x0), .second, .val (.long x1), .second, .val (.long x2), .second, .val (.long x3), .second, .val (.long x4), .second, .val (.long x5), .second, .val (.long r0), .second, .unset, .unset, .unset, .unset, .unset, .unset, .unset] [(.long x1), (.int (1 : Int32)), (.ref a1), (.ref a1)]))
    obtain ⟨T3, h3, X3, e3, W3, A3, st3⟩ := own_stJ X2 hx hZ e2 A2 (g := (mkF m 27 #[.val (.long x0), .second, .val (.long x1), .second, .val (.long x2), .second, .val (.long x3), .second, .val (.long x4), .second, .val (.long x5), .second, .val (.long r0), .second, .unset, .unset, .unset, .unset, .unset, .unset, .unset] [(.long x1), (.int (1 : Int32)), (.ref a1), (.ref a1)])) rfl rfl (hb hby at_27) 1 (by decide) (by simp)
    have N3 := Fr.snoc X3 N2 g_a1
    have t_E_3 := t_E_2.wr W3
    refine own_go st3 ?_
    show own_Go p e below _ (T3.setTop (mkF m 28 #[.val (.long x0), .second, .val (.long x1), .second, .val (.long x2), .second, .val (.long x3), .second, .val (.long x4), .second, .val (.long x5), .second, .val (.long r0), .second, .unset, .unset, .unset, .unset, .unset, .unset, .unset] [(.ref a1)]))
    refine own_go (fun _ => XS.dup X3.here hx rfl (hb hby at_28) rfl rfl) ?_
    show own_Go p e below _ (T3.setTop (mkF m 29 #[.val (.long x0), .second, .val (.long x1), .second, .val (.long x2), .second, .val (.long x3), .second, .val (.long x4), .second, .val (.long x5), .second, .val (.long r0), .second, .unset, .unset, .unset, .unset, .unset, .unset, .unset] [(.ref a1), (.ref a1)]))
    refine own_go (fun _ => XS.iconst X3.here hx rfl (hb hby at_29)) ?_
    show own_Go p e below _ (T3.setTop (mkF m 30 #[.val (.long x0), .second, .val (.long x1), .second, .val (.long x2), .second, .val (.long x3), .second, .val (.long x4), .second, .val (.long x5), .second, .val (.long r0), .second, .unset, .unset, .unset, .unset, .unset, .unset, .unset] [(.int (2 : Int32)), (.ref a1), (.ref a1)]))
    refine own_go (fun _ => XT.lload X3.here hx rfl (hb hby at_30) rfl) ?_
    show own_Go p e below _ (T3.setTop (mkF m 32 #[.val (.long x0), .second, .val (.long x1), .second, .val (.long x2), .second, .val (.long x3), .second, .val (.long x4), .second, .val (.long x5), .second, .val (.long r0), .second, .unset, .unset, .unset, .unset, .unset, .unset, .unset] [(.long x2), (.int (2 : Int32)), (.ref a1), (.ref a1)]))
    obtain ⟨T4, h4, X4, e4, W4, A4, st4⟩ := own_stJ X3 hx hZ e3 A3 (g := (mkF m 32 #[.val (.long x0), .second, .val (.long x1), .second, .val (.long x2), .second, .val (.long x3), .second, .val (.long x4), .second, .val (.long x5), .second, .val (.long r0), .second, .unset, .unset, .unset, .unset, .unset, .unset, .unset] [(.long x2), (.int (2 : Int32)), (.ref a1), (.ref a1)])) rfl rfl (hb hby at_32) 2 (by decide) (by simp)
    have N4 := Fr.snoc X4 N3 g_a1
    have t_E_4 := t_E_3.wr W4
    refine own_go st4 ?_
    show own_Go p e below _ (T4.setTop (mkF m 33 #[.val (.long x0), .second, .val (.long x1), .second, .val (.long x2), .second, .val (.long x3), .second, .val (.long x4), .second, .val (.long x5), .second, .val (.long r0), .second, .unset, .unset, .unset, .unset, .unset, .unset, .unset] [(.ref a1)]))
    refine own_go (fun _ => XS.astore X4.here hx rfl (hb hby at_33) rfl rfl (l' := #[.val (.long x0), .second, .val (.long x1), .second, .val (.long x2), .second, .val (.long x3), .second, .val (.long x4), .second, .val (.long x5), .second, .val (.long r0), .second, .val (.ref a1), .unset, .unset, .unset, .unset, .unset, .unset]) rfl) ?_
    show own_Go p e below _ (T4.setTop (mkF m 35 #[.val (.long x0), .second, .val (.long x1), .second, .val (.long x2), .second, .val (.long x3), .second, .val (.long x4), .second, .val (.long x5), .second, .val (.long r0), .second, .val (.ref a1), .unset, .unset, .unset, .unset, .unset, .unset] []))
    refine own_go (fun _ => XS.iconst X4.here hx rfl (hb hby at_35)) ?_
    show own_Go p e below _ (T4.setTop (mkF m 36 #[.val (.long x0), .second, .val (.long x1), .second, .val (.long x2), .second, .val (.long x3), .second, .val (.long x4), .second, .val (.long x5), .second, .val (.long r0), .second, .val (.ref a1), .unset, .unset, .unset, .unset, .unset, .unset] [(.int (3 : Int32))]))
    obtain ⟨T5, h5, X5, e5, E5, A5, C5, st5⟩ := own_newAE X4 hx hZ (aty := .long) (hw _ (List.mem_of_getElem? (i := 1) rfl)) e4 (g := (mkF m 36 #[.val (.long x0), .second, .val (.long x1), .second, .val (.long x2), .second, .val (.long x3), .second, .val (.long x4), .second, .val (.long x5), .second, .val (.long r0), .second, .val (.ref a1), .unset, .unset, .unset, .unset, .unset, .unset] [(.int (3 : Int32))])) rfl (hb hby at_36) rfl 3 3 (by decide) (by decide) (by decide) (by decide) (by decide) (ad := "[J") (by first | rfl | decide)
    obtain ⟨a5, q5⟩ : ∃ z, z = h4.size := ⟨_, rfl⟩
    rw [← q5] at A5 C5 st5
    have ne_a1_a5 : a1 ≠ a5 := fun z => absurd t_E_4.lt (by rw [z, q5]; exact Nat.lt_irrefl _)
    have t_E_5 := t_E_4.ext E5
    have t_A_5 := A4.ext E5
    refine own_go st5 ?_
    show own_Go p e below _ (T5.setTop (mkF m 38 #[.val (.long x0), .second, .val (.long x1), .second, .val (.long x2), .second, .val (.long x3), .second, .val (.long x4), .second, .val (.long x5), .second, .val (.long r0), .second, .val (.ref a1), .unset, .unset, .unset, .unset, .unset, .unset] [(.ref a5)]))
    have g_a5 : h0.size ≤ a5 := by rw [q5]; exact (Nat.le_trans g_a1 (Nat.le_of_lt A4.lt))
    refine own_go (fun _ => XS.dup X5.here hx rfl (hb hby at_38) rfl rfl) ?_
    show own_Go p e below _ (T5.setTop (mkF m 39 #[.val (.long x0), .second, .val (.long x1), .second, .val (.long x2), .second, .val (.long x3), .second, .val (.long x4), .second, .val (.long x5), .second, .val (.long r0), .second, .val (.ref a1), .unset, .unset, .unset, .unset, .unset, .unset] [(.ref a5), (.ref a5)]))
    refine own_go (fun _ => XS.iconst X5.here hx rfl (hb hby at_39)) ?_
    show own_Go p e below _ (T5.setTop (mkF m 40 #[.val (.long x0), .second, .val (.long x1), .second, .val (.long x2), .second, .val (.long x3), .second, .val (.long x4), .second, .val (.long x5), .second, .val (.long r0), .second, .val (.ref a1), .unset, .unset, .unset, .unset, .unset, .unset] [(.int (0 : Int32)), (.ref a5), (.ref a5)]))
    refine own_go (fun _ => XT.lload X5.here hx rfl (hb hby at_40) rfl) ?_
    show own_Go p e below _ (T5.setTop (mkF m 42 #[.val (.long x0), .second, .val (.long x1), .second, .val (.long x2), .second, .val (.long x3), .second, .val (.long x4), .second, .val (.long x5), .second, .val (.long r0), .second, .val (.ref a1), .unset, .unset, .unset, .unset, .unset, .unset] [(.long x3), (.int (0 : Int32)), (.ref a5), (.ref a5)]))
    refine own_go (fun _ => XT.lload X5.here hx rfl (hb hby at_42) rfl) ?_
    show own_Go p e below _ (T5.setTop (mkF m 44 #[.val (.long x0), .second, .val (.long x1), .second, .val (.long x2), .second, .val (.long x3), .second, .val (.long x4), .second, .val (.long x5), .second, .val (.long r0), .second, .val (.ref a1), .unset, .unset, .unset, .unset, .unset, .unset] [(.long r0), (.long x3), (.int (0 : Int32)), (.ref a5), (.ref a5)]))
    obtain ⟨T6, X6, e6, st6⟩ := own_callSP X5 hx hZ hown (argsL := [(.long x3), (.long r0)]) (rest := [(.int (0 : Int32)), (.ref a5), (.ref a5)]) (own_pick_con l Z a0 hw x3 r0 h5 []) e5 (hw _ (List.mem_of_getElem? (i := 2) rfl)) (hw _ (List.mem_of_getElem? (i := 3) rfl)) (hw _ (List.mem_of_getElem? (i := 4) rfl)) (hw _ (List.mem_of_getElem? (i := 5) rfl)) (by decide) (by decide +kernel : parseMethodDescriptor "(JJ)J" = some ⟨[.long, .long], some .long⟩) rfl (g := (mkF m 44 #[.val (.long x0), .second, .val (.long x1), .second, .val (.long x2), .second, .val (.long x3), .second, .val (.long x4), .second, .val (.long x5), .second, .val (.long r0), .second, .val (.ref a1), .unset, .unset, .unset, .unset, .unset, .unset] [(.long r0), (.long x3), (.int (0 : Int32)), (.ref a5), (.ref a5)])) rfl (by rw [hml]; rfl) rfl 3 (by show 2 * 0 + _ ≤ _; exact Nat.le_of_eq rfl) (hb hby at_44) (by decide) (by decide) rfl rfl (by decide) (by decide)
    refine own_go st6 ?_
    show own_Go p e below _ (T6.setTop (mkF m 47 #[.val (.long x0), .second, .val (.long x1), .second, .val (.long x2), .second, .val (.long x3), .second, .val (.long x4), .second, .val (.long x5), .second, .val (.long r0), .second, .val (.ref a1), .unset, .unset, .unset, .unset, .unset, .unset] [(.long (own_pick x3 r0)), (.int (0 : Int32)), (.ref a5), (.ref a5)]))
    obtain ⟨T7, h7, X7, e7, W7, A7, st7⟩ := own_stJ X6 hx hZ e6 A5 (g := (mkF m 47 #[.val (.long x0), .second, .val (.long x1), .second, .val (.long x2), .second, .val (.long x3), .second, .val (.long x4), .second, .val (.long x5), .second, .val (.long r0), .second, .val (.ref a1), .unset, .unset, .unset, .unset, .unset, .unset] [(.long (own_pick x3 r0)), (.int (0 : Int32)), (.ref a5), (.ref a5)])) rfl rfl (hb hby at_47) 0 (by decide) (by simp)
    have N7 := Fr.snoc X7 N4 g_a5
    have t_E_7 := t_E_5.wr W7
    have t_A_7 := t_A_5.other W7 ne_a1_a5
    have d_E_7 := C5.wr W7
    refine own_go st7 ?_
    show own_Go p e below _ (T7.setTop (mkF m 48 #[.val (.long x0), .second, .val (.long x1), .second, .val (.long x2), .second, .val (.long x3), .second, .val (.long x4), .second, .val (.long x5), .second, .val (.long r0), .second, .val (.ref a1), .unset, .unset, .unset, .unset, .unset, .unset] [(.ref a5)]))
    refine own_go (fun _ => XS.dup X7.here hx rfl (hb hby at_48) rfl rfl) ?_
    show own_Go p e below _ (T7.setTop (mkF m 49 #[.val (.long x0), .second, .val (.long x1), .second, .val (.long x2), .second, .val (.long x3), .second, .val (.long x4), .second, .val (.long x5), .second, .val (.long r0), .second, .val (.ref a1), .unset, .unset, .unset, .unset, .unset, .unset] [(.ref a5), (.ref a5)]))
    refine own_go (fun _ => XS.iconst X7.here hx rfl (hb hby at_49)) ?_
    show own_Go p e below _ (T7.setTop (mkF m 50 #[.val (.long x0), .second, .val (.long x1), .second, .val (.long x2), .second, .val (.long x3), .second, .val (.long x4), .second, .val (.long x5), .second, .val (.long r0), .second, .val (.ref a1), .unset, .unset, .unset, .unset, .unset, .unset] [(.int (1 : Int32)), (.ref a5), (.ref a5)]))
    refine own_go (fun _ => XT.lload X7.here hx rfl (hb hby at_50) rfl) ?_
    show own_Go p e below _ (T7.setTop (mkF m 52 #[.val (.long x0), .second, .val (.long x1), .second, .val (.long x2), .second, .val (.long x3), .second, .val (.long x4), .second, .val (.long x5), .second, .val (.long r0), .second, .val (.ref a1), .unset, .unset, .unset, .unset, .unset, .unset] [(.long x4), (.int (1 : Int32)), (.ref a5), (.ref a5)]))
    refine own_go (fun _ => XT.lloadN X7.here hx rfl (hb hby at_52) rfl) ?_
    show own_Go p e below _ (T7.setTop (mkF m 53 #[.val (.long x0), .second, .val (.long x1), .second, .val (.long x2), .second, .val (.long x3), .second, .val (.long x4), .second, .val (.long x5), .second, .val (.long r0), .second, .val (.ref a1), .unset, .unset, .unset, .unset, .unset, .unset] [(.long x1), (.long x4), (.int (1 : Int32)), (.ref a5), (.ref a5)]))
    obtain ⟨T8, X8, e8, st8⟩ := own_callSP X7 hx hZ hown (argsL := [(.long x4), (.long x1)]) (rest := [(.int (1 : Int32)), (.ref a5), (.ref a5)]) (own_pick_con l Z a0 hw x4 x1 h7 []) e7 (hw _ (List.mem_of_getElem? (i := 2) rfl)) (hw _ (List.mem_of_getElem? (i := 3) rfl)) (hw _ (List.mem_of_getElem? (i := 4) rfl)) (hw _ (List.mem_of_getElem? (i := 5) rfl)) (by decide) (by decide +kernel : parseMethodDescriptor "(JJ)J" = some ⟨[.long, .long], some .long⟩) rfl (g := (mkF m 53 #[.val (.long x0), .second, .val (.long x1), .second, .val (.long x2), .second, .val (.long x3), .second, .val (.long x4), .second, .val (.long x5), .second, .val (.long r0), .second, .val (.ref a1), .unset, .unset, .unset, .unset, .unset, .unset] [(.long x1), (.long x4), (.int (1 : Int32)), (.ref a5), (.ref a5)])) rfl (by rw [hml]; rfl) rfl 3 (by show 2 * 0 + _ ≤ _; exact Nat.le_of_eq rfl) (hb hby at_53) (by decide) (by decide) rfl rfl (by decide) (by decide)
    refine own_go st8 ?_
    show own_Go p e below _ (T8.setTop (mkF m 56 #[.val (.long x0), .second, .val (.long x1), .second, .val (.long x2), .second, .val (.long x3), .second, .val (.long x4), .second, .val (.long x5), .second, .val (.long r0), .second, .val (.ref a1), .unset, .unset, .unset, .unset, .unset, .unset] [(.long (own_pick x4 x1)), (.int (1 : Int32)), (.ref a5), (.ref a5)]))
    obtain ⟨T9, h9, X9, e9, W9, A9, st9⟩ := own_stJ X8 hx hZ e8 A7 (g := (mkF m 56 #[.val (.long x0), .second, .val (.long x1), .second, .val (.long x2), .second, .val (.long x3), .second, .val (.long x4), .second, .val (.long x5), .second, .val (.long r0), .second, .val (.ref a1), .unset, .unset, .unset, .unset, .unset, .unset] [(.long (own_pick x4 x1)), (.int (1 : Int32)), (.ref a5), (.ref a5)])) rfl rfl (hb hby at_56) 1 (by decide) (by simp)
    have N9 := Fr.snoc X9 N7 g_a5
    have t_E_9 := t_E_7.wr W9
    have t_A_9 := t_A_7.other W9 ne_a1_a5
    have d_E_9 := d_E_7.wr W9
    refine own_go st9 ?_
    show own_Go p e below _ (T9.setTop (mkF m 57 #[.val (.long x0), .second, .val (.long x1), .second, .val (.long x2), .second, .val (.long x3), .second, .val (.long x4), .second, .val (.long x5), .second, .val (.long r0), .second, .val (.ref a1), .unset, .unset, .unset, .unset, .unset, .unset] [(.ref a5)]))
    refine own_go (fun _ => XS.dup X9.here hx rfl (hb hby at_57) rfl rfl) ?_
    show own_Go p e below _ (T9.setTop (mkF m 58 #[.val (.long x0), .second, .val (.long x1), .second, .val (.long x2), .second, .val (.long x3), .second, .val (.long x4), .second, .val (.long x5), .second, .val (.long r0), .second, .val (.ref a1), .unset, .unset, .unset, .unset, .unset, .unset] [(.ref a5), (.ref a5)]))
    refine own_go (fun _ => XS.iconst X9.here hx rfl (hb hby at_58)) ?_
    show own_Go p e below _ (T9.setTop (mkF m 59 #[.val (.long x0), .second, .val (.long x1), .second, .val (.long x2), .second, .val (.long x3), .second, .val (.long x4), .second, .val (.long x5), .second, .val (.long r0), .second, .val (.ref a1), .unset, .unset, .unset, .unset, .unset, .unset] [(.int (2 : Int32)), (.ref a5), (.ref a5)]))
    refine own_go (fun _ => XT.lload X9.here hx rfl (hb hby at_59) rfl) ?_
    show own_Go p e below _ (T9.setTop (mkF m 61 #[.val (.long x0), .second, .val (.long x1), .second, .val (.long x2), .second, .val (.long x3), .second, .val (.long x4), .second, .val (.long x5), .second, .val (.long r0), .second, .val (.ref a1), .unset, .unset, .unset, .unset, .unset, .unset] [(.long x5), (.int (2 : Int32)), (.ref a5), (.ref a5)]))
    refine own_go (fun _ => XT.lload X9.here hx rfl (hb hby at_61) rfl) ?_
    show own_Go p e below _ (T9.setTop (mkF m 63 #[.val (.long x0), .second, .val (.long x1), .second, .val (.long x2), .second, .val (.long x3), .second, .val (.long x4), .second, .val (.long x5), .second, .val (.long r0), .second, .val (.ref a1), .unset, .unset, .unset, .unset, .unset, .unset] [(.long x2), (.long x5), (.int (2 : Int32)), (.ref a5), (.ref a5)]))
    obtain ⟨T10, X10, e10, st10⟩ := own_callSP X9 hx hZ hown (argsL := [(.long x5), (.long x2)]) (rest := [(.int (2 : Int32)), (.ref a5), (.ref a5)]) (own_pick_con l Z a0 hw x5 x2 h9 []) e9 (hw _ (List.mem_of_getElem? (i := 2) rfl)) (hw _ (List.mem_of_getElem? (i := 3) rfl)) (hw _ (List.mem_of_getElem? (i := 4) rfl)) (hw _ (List.mem_of_getElem? (i := 5) rfl)) (by decide) (by decide +kernel : parseMethodDescriptor "(JJ)J" = some ⟨[.long, .long], some .long⟩) rfl (g := (mkF m 63 #[.val (.long x0), .second, .val (.long x1), .second, .val (.long x2), .second, .val (.long x3), .second, .val (.long x4), .second, .val (.long x5), .second, .val (.long r0), .second, .val (.ref a1), .unset, .unset, .unset, .unset, .unset, .unset] [(.long x2), (.long x5), (.int (2 : Int32)), (.ref a5), (.ref a5)])) rfl (by rw [hml]; rfl) rfl 3 (by show 2 * 0 + _ ≤ _; exact Nat.le_of_eq rfl) (hb hby at_63) (by decide) (by decide) rfl rfl (by decide) (by decide)
    refine own_go st10 ?_
    show own_Go p e below _ (T10.setTop (mkF m 66 #[.val (.long x0), .second, .val (.long x1), .second, .val (.long x2), .second, .val (.long x3), .second, .val (.long x4), .second, .val (.long x5), .second, .val (.long r0), .second, .val (.ref a1), .unset, .unset, .unset, .unset, .unset, .unset] [(.long (own_pick x5 x2)), (.int (2 : Int32)), (.ref a5), (.ref a5)]))
    obtain ⟨T11, h11, X11, e11, W11, A11, st11⟩ := own_stJ X10 hx hZ e10 A9 (g := (mkF m 66 #[.val (.long x0), .second, .val (.long x1), .second, .val (.long x2), .second, .val (.long x3), .second, .val (.long x4), .second, .val (.long x5), .second, .val (.long r0), .second, .val (.ref a1), .unset, .unset, .unset, .unset, .unset, .unset] [(.long (own_pick x5 x2)), (.int (2 : Int32)), (.ref a5), (.ref a5)])) rfl rfl (hb hby at_66) 2 (by decide) (by simp)
    have N11 := Fr.snoc X11 N9 g_a5
    have t_E_11 := t_E_9.wr W11
    have t_A_11 := t_A_9.other W11 ne_a1_a5
    have d_E_11 := d_E_9.wr W11
    refine own_go st11 ?_
    show own_Go p e below _ (T11.setTop (mkF m 67 #[.val (.long x0), .second, .val (.long x1), .second, .val (.long x2), .second, .val (.long x3), .second, .val (.long x4), .second, .val (.long x5), .second, .val (.long r0), .second, .val (.ref a1), .unset, .unset, .unset, .unset, .unset, .unset] [(.ref a5)]))
    refine own_go (fun _ => XS.astore X11.here hx rfl (hb hby at_67) rfl rfl (l' := #[.val (.long x0), .second, .val (.long x1), .second, .val (.long x2), .second, .val (.long x3), .second, .val (.long x4), .second, .val (.long x5), .second, .val (.long r0), .second, .val (.ref a1), .val (.ref a5), .unset, .unset, .unset, .unset, .unset]) rfl) ?_
    show own_Go p e below _ (T11.setTop (mkF m 69 #[.val (.long x0), .second, .val (.long x1), .second, .val (.long x2), .second, .val (.long x3), .second, .val (.long x4), .second, .val (.long x5), .second, .val (.long r0), .second, .val (.ref a1), .val (.ref a5), .unset, .unset, .unset, .unset, .unset] []))
    obtain ⟨T12, h12, X12, e12, E12, C12, D12, -, st12⟩ := newO X11 hx hZ hown (hw _ (List.mem_of_getElem? (i := 7) rfl)) (hw _ (List.mem_of_getElem? (i := 8) rfl)) (hw _ (List.mem_of_getElem? (i := 9) rfl)) e11 (g := (mkF m 69 #[.val (.long x0), .second, .val (.long x1), .second, .val (.long x2), .second, .val (.long x3), .second, .val (.long x4), .second, .val (.long x5), .second, .val (.long r0), .second, .val (.ref a1), .val (.ref a5), .unset, .unset, .unset, .unset, .unset] [])) rfl (hb hby at_69) (by decide) (by decide)
    obtain ⟨a12, q12⟩ : ∃ z, z = h11.size := ⟨_, rfl⟩
    rw [← q12] at C12 D12 st12
    have ne_a1_a12 : a1 ≠ a12 := fun z => absurd t_E_11.lt (by rw [z, q12]; exact Nat.lt_irrefl _)
    have ne_a5_a12 : a5 ≠ a12 := fun z => absurd d_E_11.lt (by rw [z, q12]; exact Nat.lt_irrefl _)
    have t_E_12 := t_E_11.ext E12
    have t_A_12 := t_A_11.ext E12
    have d_E_12 := d_E_11.ext E12
    have d_A_12 := A11.ext E12
    have o_self_12 := D12 (Or.inr (hw _ (List.mem_of_getElem? (i := 17) rfl))) (ty := .int) (by decide)
    have o_runs_12 := D12 (Or.inr (hw _ (List.mem_of_getElem? (i := 19) rfl))) (ty := (.array .long)) (by decide)
    have o_marks_12 := D12 (Or.inr (hw _ (List.mem_of_getElem? (i := 21) rfl))) (ty := (.array .long)) (by decide)
    have o_marked_12 := D12 (Or.inl (hw _ (List.mem_of_getElem? (i := 23) rfl))) (ty := .int) (by decide)
    have o_heard_12 := D12 (Or.inr (hw _ (List.mem_of_getElem? (i := 34) rfl))) (ty := (.array .long)) (by decide)
    have o_preceded_12 := D12 (Or.inl (hw _ (List.mem_of_getElem? (i := 41) rfl))) (ty := .boolean) (by decide)
    have o_chosen_12 := D12 (Or.inl (hw _ (List.mem_of_getElem? (i := 43) rfl))) (ty := .boolean) (by decide)
    refine own_go st12 ?_
    show own_Go p e below _ (T12.setTop (mkF m 72 #[.val (.long x0), .second, .val (.long x1), .second, .val (.long x2), .second, .val (.long x3), .second, .val (.long x4), .second, .val (.long x5), .second, .val (.long r0), .second, .val (.ref a1), .val (.ref a5), .unset, .unset, .unset, .unset, .unset] [(.ref a12)]))
    have g_a12 : h0.size ≤ a12 := by rw [q12]; exact (Nat.le_trans g_a5 (Nat.le_of_lt A11.lt))
    refine own_go (fun _ => XS.dup X12.here hx rfl (hb hby at_72) rfl rfl) ?_
    show own_Go p e below _ (T12.setTop (mkF m 73 #[.val (.long x0), .second, .val (.long x1), .second, .val (.long x2), .second, .val (.long x3), .second, .val (.long x4), .second, .val (.long x5), .second, .val (.long r0), .second, .val (.ref a1), .val (.ref a5), .unset, .unset, .unset, .unset, .unset] [(.ref a12), (.ref a12)]))
    refine own_go (fun _ => XS.iconst X12.here hx rfl (hb hby at_73)) ?_
    show own_Go p e below _ (T12.setTop (mkF m 74 #[.val (.long x0), .second, .val (.long x1), .second, .val (.long x2), .second, .val (.long x3), .second, .val (.long x4), .second, .val (.long x5), .second, .val (.long r0), .second, .val (.ref a1), .val (.ref a5), .unset, .unset, .unset, .unset, .unset] [(.int (0 : Int32)), (.ref a12), (.ref a12)]))
    refine own_go (fun _ => XS.iconst X12.here hx rfl (hb hby at_74)) ?_
    show own_Go p e below _ (T12.setTop (mkF m 75 #[.val (.long x0), .second, .val (.long x1), .second, .val (.long x2), .second, .val (.long x3), .second, .val (.long x4), .second, .val (.long x5), .second, .val (.long r0), .second, .val (.ref a1), .val (.ref a5), .unset, .unset, .unset, .unset, .unset] [(.int (3 : Int32)), (.int (0 : Int32)), (.ref a12), (.ref a12)]))
    refine own_go (fun _ => XT.lload X12.here hx rfl (hb hby at_75) rfl) ?_
    show own_Go p e below _ (T12.setTop (mkF m 77 #[.val (.long x0), .second, .val (.long x1), .second, .val (.long x2), .second, .val (.long x3), .second, .val (.long x4), .second, .val (.long x5), .second, .val (.long r0), .second, .val (.ref a1), .val (.ref a5), .unset, .unset, .unset, .unset, .unset] [(.long r0), (.int (3 : Int32)), (.int (0 : Int32)), (.ref a12), (.ref a12)]))
    have gn : h0.size ≤ h12.size := Nat.le_trans g_a12 (Nat.le_of_lt C12.lt)
    have lt1 : a1 < h12.size := t_A_12.lt
    have lt2 : a5 < h12.size := d_A_12.lt
    obtain ⟨_, T13, L13, X13, ⟨rfl, Nc13, Kc13, rr, mm, hh, I13, fr, fm, fh⟩, st13⟩ := own_callI X12 hx hZ hown rfl (argsL := [(.int (0 : Int32)), (.int (3 : Int32)), (.long r0)]) (rest := [(.ref a12)]) (own_init_con l Z a0 hw a12 r0 h0.size h12 C12 o_self_12 o_runs_12 o_marks_12 o_marked_12 o_heard_12 o_preceded_12 o_chosen_12 hr g_a12 gn []) e12 (hw _ (List.mem_of_getElem? (i := 10) rfl)) (hw _ (List.mem_of_getElem? (i := 11) rfl)) (hw _ (List.mem_of_getElem? (i := 9) rfl)) (hw _ (List.mem_of_getElem? (i := 12) rfl)) (by decide) (by decide +kernel : parseMethodDescriptor "(IIJ)V" = some ⟨[.int, .int, .long], none⟩) rfl (g := (mkF m 77 #[.val (.long x0), .second, .val (.long x1), .second, .val (.long x2), .second, .val (.long x3), .second, .val (.long x4), .second, .val (.long x5), .second, .val (.long r0), .second, .val (.ref a1), .val (.ref a5), .unset, .unset, .unset, .unset, .unset] [(.long r0), (.int (3 : Int32)), (.int (0 : Int32)), (.ref a12), (.ref a12)])) rfl (by rw [hml]; rfl) rfl 1 (by show 2 * 0 + _ ≤ _; exact Nat.le_of_eq rfl) (hb hby at_77) (by decide) (by decide) (by decide) (by decide)
    have N13 := Fr.app N11 Nc13
    have t_E_13 := t_E_12.keep Kc13
    have t_A_13 := t_A_12.keep Kc13 (ninS ne_a1_a12 nin0)
    have d_E_13 := d_E_12.keep Kc13
    have d_A_13 := d_A_12.keep Kc13 (ninS ne_a5_a12 nin0)
    have o_E_13 := C12.keep Kc13
    refine own_go st13 ?_
    show own_Go p e below _ (T13.setTop (mkF m 80 #[.val (.long x0), .second, .val (.long x1), .second, .val (.long x2), .second, .val (.long x3), .second, .val (.long x4), .second, .val (.long x5), .second, .val (.long r0), .second, .val (.ref a1), .val (.ref a5), .unset, .unset, .unset, .unset, .unset] [(.ref a12)]))
    have gr : h0.size ≤ rr := Nat.le_trans gn fr
    have gm : h0.size ≤ mm := Nat.le_trans gn fm
    have gh : h0.size ≤ hh := Nat.le_trans gn fh
    have ne_a1_rr : a1 ≠ rr := by omega
    have ne_a1_mm : a1 ≠ mm := by omega
    have ne_a1_hh : a1 ≠ hh := by omega
    have ne_a5_rr : a5 ≠ rr := by omega
    have ne_a5_mm : a5 ≠ mm := by omega
    have ne_a5_hh : a5 ≠ hh := by omega
    obtain ⟨⟨ex1, _⟩, _⟩ := id I13
    refine own_go (fun _ => XS.astore X13.here hx rfl (hb hby at_80) rfl rfl (l' := #[.val (.long x0), .second, .val (.long x1), .second, .val (.long x2), .second, .val (.long x3), .second, .val (.long x4), .second, .val (.long x5), .second, .val (.long r0), .second, .val (.ref a1), .val (.ref a5), .val (.ref a12), .unset, .unset, .unset, .unset]) rfl) ?_
    show own_Go p e below _ (T13.setTop (mkF m 82 #[.val (.long x0), .second, .val (.long x1), .second, .val (.long x2), .second, .val (.long x3), .second, .val (.long x4), .second, .val (.long x5), .second, .val (.long r0), .second, .val (.ref a1), .val (.ref a5), .val (.ref a12), .unset, .unset, .unset, .unset] []))
    refine own_go (fun _ => XS.aload X13.here hx rfl (hb hby at_82) rfl rfl) ?_
    show own_Go p e below _ (T13.setTop (mkF m 84 #[.val (.long x0), .second, .val (.long x1), .second, .val (.long x2), .second, .val (.long x3), .second, .val (.long x4), .second, .val (.long x5), .second, .val (.long r0), .second, .val (.ref a1), .val (.ref a5), .val (.ref a12), .unset, .unset, .unset, .unset] [(.ref a12)]))
    refine own_go (fun _ => XS.iconst X13.here hx rfl (hb hby at_84)) ?_
    show own_Go p e below _ (T13.setTop (mkF m 85 #[.val (.long x0), .second, .val (.long x1), .second, .val (.long x2), .second, .val (.long x3), .second, .val (.long x4), .second, .val (.long x5), .second, .val (.long r0), .second, .val (.ref a1), .val (.ref a5), .val (.ref a12), .unset, .unset, .unset, .unset] [(.int (1 : Int32)), (.ref a12)]))
    refine own_go (fun _ => XT.lconst X13.here hx rfl (hb hby at_85)) ?_
    show own_Go p e below _ (T13.setTop (mkF m 86 #[.val (.long x0), .second, .val (.long x1), .second, .val (.long x2), .second, .val (.long x3), .second, .val (.long x4), .second, .val (.long x5), .second, .val (.long r0), .second, .val (.ref a1), .val (.ref a5), .val (.ref a12), .unset, .unset, .unset, .unset] [(.long (1 : Int64)), (.int (1 : Int32)), (.ref a12)]))
    refine own_go (fun _ => XS.aload X13.here hx rfl (hb hby at_86) rfl rfl) ?_
    show own_Go p e below _ (T13.setTop (mkF m 88 #[.val (.long x0), .second, .val (.long x1), .second, .val (.long x2), .second, .val (.long x3), .second, .val (.long x4), .second, .val (.long x5), .second, .val (.long r0), .second, .val (.ref a1), .val (.ref a5), .val (.ref a12), .unset, .unset, .unset, .unset] [(.ref a1), (.long (1 : Int64)), (.int (1 : Int32)), (.ref a12)]))
    obtain ⟨_, T14, L14, X14, ⟨rfl, Nc14, Kc14, ms, kk, pr, ch, ii, I14, hk, ⟨mq, hq, hq0⟩, hl⟩, st14⟩ := own_callV X13 hx hZ hown (argsL := [(.int (1 : Int32)), (.long (1 : Int64)), (.ref a1)]) (rest := []) (own_admit_con l Z a0 hw a12 rr mm hh a1 r0 x1 x2 h0.size T13.heap I13 t_A_13 hr ne_a1_rr ne_a1_mm (Ne.symm ne_a1_a12) g_a12 gr gm gh []) rfl ex1 (hw _ (List.mem_of_getElem? (i := 35) rfl)) (hw _ (List.mem_of_getElem? (i := 36) rfl)) (hw _ (List.mem_of_getElem? (i := 38) rfl)) (hw _ (List.mem_of_getElem? (i := 37) rfl)) (hw _ (List.mem_of_getElem? (i := 9) rfl)) (hw _ (List.mem_of_getElem? (i := 39) rfl)) (notFace_of_selects (args := #[]) (mvT hZ (hw _ (List.mem_of_getElem? (i := 38) rfl)))) (by decide) (by decide +kernel : parseMethodDescriptor "(IJ[J)Z" = some ⟨[.int, .long, (.array .long)], some .boolean⟩) rfl (g := (mkF m 88 #[.val (.long x0), .second, .val (.long x1), .second, .val (.long x2), .second, .val (.long x3), .second, .val (.long x4), .second, .val (.long x5), .second, .val (.long r0), .second, .val (.ref a1), .val (.ref a5), .val (.ref a12), .unset, .unset, .unset, .unset] [(.ref a1), (.long (1 : Int64)), (.int (1 : Int32)), (.ref a12)])) rfl (by rw [hml]; rfl) rfl 0 (by show 2 * 0 + _ ≤ _; exact Nat.le_of_eq rfl) (hb hby at_88) (by decide) (by decide) (by decide) (by decide)
    have N14 := Fr.app N13 Nc14
    have o_E_14 := ex1.keep Kc14
    have t_A_14 := t_A_13.keep Kc14 (ninS ne_a1_a12 (ninS ne_a1_rr (ninS ne_a1_mm (ninS ne_a1_hh nin0))))
    have d_A_14 := d_A_13.keep Kc14 (ninS ne_a5_a12 (ninS ne_a5_rr (ninS ne_a5_mm (ninS ne_a5_hh nin0))))
    refine own_go st14 ?_
    show own_Go p e below _ (T14.setTop (mkF m 91 #[.val (.long x0), .second, .val (.long x1), .second, .val (.long x2), .second, .val (.long x3), .second, .val (.long x4), .second, .val (.long x5), .second, .val (.long r0), .second, .val (.ref a1), .val (.ref a5), .val (.ref a12), .unset, .unset, .unset, .unset] [(.int (1 : Int32))]))
    obtain ⟨⟨ex2, _⟩, _⟩ := id I14
    refine own_go (fun _ => XS.istore X14.here hx rfl (hb hby at_91) rfl (l' := #[.val (.long x0), .second, .val (.long x1), .second, .val (.long x2), .second, .val (.long x3), .second, .val (.long x4), .second, .val (.long x5), .second, .val (.long r0), .second, .val (.ref a1), .val (.ref a5), .val (.ref a12), .val (.int (1 : Int32)), .unset, .unset, .unset]) rfl) ?_
    show own_Go p e below _ (T14.setTop (mkF m 93 #[.val (.long x0), .second, .val (.long x1), .second, .val (.long x2), .second, .val (.long x3), .second, .val (.long x4), .second, .val (.long x5), .second, .val (.long r0), .second, .val (.ref a1), .val (.ref a5), .val (.ref a12), .val (.int (1 : Int32)), .unset, .unset, .unset] []))
    refine own_go (fun _ => XS.aload X14.here hx rfl (hb hby at_93) rfl rfl) ?_
    show own_Go p e below _ (T14.setTop (mkF m 95 #[.val (.long x0), .second, .val (.long x1), .second, .val (.long x2), .second, .val (.long x3), .second, .val (.long x4), .second, .val (.long x5), .second, .val (.long r0), .second, .val (.ref a1), .val (.ref a5), .val (.ref a12), .val (.int (1 : Int32)), .unset, .unset, .unset] [(.ref a12)]))
    refine own_go (fun _ => XS.aload X14.here hx rfl (hb hby at_95) rfl rfl) ?_
    show own_Go p e below _ (T14.setTop (mkF m 97 #[.val (.long x0), .second, .val (.long x1), .second, .val (.long x2), .second, .val (.long x3), .second, .val (.long x4), .second, .val (.long x5), .second, .val (.long r0), .second, .val (.ref a1), .val (.ref a5), .val (.ref a12), .val (.int (1 : Int32)), .unset, .unset, .unset] [(.ref a5), (.ref a12)]))
    obtain ⟨_, T15, L15, X15, ⟨rfl, eh15, rfl⟩, st15⟩ := own_callV X14 hx hZ hown (argsL := [(.ref a5)]) (rest := []) (own_agree_con l Z a0 hw a12 rr mm hh a5 r0 x1 x2 (own_pick x3 r0) (own_pick x4 x1) (own_pick x5 x2) ms _ kk pr ch T14.heap I14 d_A_14 []) rfl ex2 (hw _ (List.mem_of_getElem? (i := 61) rfl)) (hw _ (List.mem_of_getElem? (i := 62) rfl)) (hw _ (List.mem_of_getElem? (i := 64) rfl)) (hw _ (List.mem_of_getElem? (i := 63) rfl)) (hw _ (List.mem_of_getElem? (i := 9) rfl)) (hw _ (List.mem_of_getElem? (i := 65) rfl)) (notFace_of_selects (args := #[]) (mvT hZ (hw _ (List.mem_of_getElem? (i := 64) rfl)))) (by decide) (by decide +kernel : parseMethodDescriptor "([J)Z" = some ⟨[(.array .long)], some .boolean⟩) rfl (g := (mkF m 97 #[.val (.long x0), .second, .val (.long x1), .second, .val (.long x2), .second, .val (.long x3), .second, .val (.long x4), .second, .val (.long x5), .second, .val (.long r0), .second, .val (.ref a1), .val (.ref a5), .val (.ref a12), .val (.int (1 : Int32)), .unset, .unset, .unset] [(.ref a5), (.ref a12)])) rfl (by rw [hml]; rfl) rfl 0 (by show 2 * 0 + _ ≤ _; exact Nat.le_of_eq rfl) (hb hby at_97) (by decide) (by decide) (by decide) (by decide)
    rw [List.append_nil] at X15
    refine own_go st15 ?_
    show own_Go p e below _ (T15.setTop (mkF m 100 #[.val (.long x0), .second, .val (.long x1), .second, .val (.long x2), .second, .val (.long x3), .second, .val (.long x4), .second, .val (.long x5), .second, .val (.long r0), .second, .val (.ref a1), .val (.ref a5), .val (.ref a12), .val (.int (1 : Int32)), .unset, .unset, .unset] [(.int (own_ag (own_pick x3 r0) r0 (own_ag (own_pick x4 x1) x1 (own_ag (own_pick x5 x2) x2 1))))]))
    refine own_go (fun _ => XS.istore X15.here hx rfl (hb hby at_100) rfl (l' := #[.val (.long x0), .second, .val (.long x1), .second, .val (.long x2), .second, .val (.long x3), .second, .val (.long x4), .second, .val (.long x5), .second, .val (.long r0), .second, .val (.ref a1), .val (.ref a5), .val (.ref a12), .val (.int (1 : Int32)), .val (.int (own_ag (own_pick x3 r0) r0 (own_ag (own_pick x4 x1) x1 (own_ag (own_pick x5 x2) x2 1)))), .unset, .unset]) rfl) ?_
    show own_Go p e below _ (T15.setTop (mkF m 102 #[.val (.long x0), .second, .val (.long x1), .second, .val (.long x2), .second, .val (.long x3), .second, .val (.long x4), .second, .val (.long x5), .second, .val (.long r0), .second, .val (.ref a1), .val (.ref a5), .val (.ref a12), .val (.int (1 : Int32)), .val (.int (own_ag (own_pick x3 r0) r0 (own_ag (own_pick x4 x1) x1 (own_ag (own_pick x5 x2) x2 1)))), .unset, .unset] []))
    refine own_go (fun _ => XS.aload X15.here hx rfl (hb hby at_102) rfl rfl) ?_
    show own_Go p e below _ (T15.setTop (mkF m 104 #[.val (.long x0), .second, .val (.long x1), .second, .val (.long x2), .second, .val (.long x3), .second, .val (.long x4), .second, .val (.long x5), .second, .val (.long r0), .second, .val (.ref a1), .val (.ref a5), .val (.ref a12), .val (.int (1 : Int32)), .val (.int (own_ag (own_pick x3 r0) r0 (own_ag (own_pick x4 x1) x1 (own_ag (own_pick x5 x2) x2 1)))), .unset, .unset] [(.ref a12)]))
    refine own_go (fun _ => XS.iconst X15.here hx rfl (hb hby at_104)) ?_
    show own_Go p e below _ (T15.setTop (mkF m 105 #[.val (.long x0), .second, .val (.long x1), .second, .val (.long x2), .second, .val (.long x3), .second, .val (.long x4), .second, .val (.long x5), .second, .val (.long r0), .second, .val (.ref a1), .val (.ref a5), .val (.ref a12), .val (.int (1 : Int32)), .val (.int (own_ag (own_pick x3 r0) r0 (own_ag (own_pick x4 x1) x1 (own_ag (own_pick x5 x2) x2 1)))), .unset, .unset] [(.int (2 : Int32)), (.ref a12)]))
    obtain ⟨_, T16, L16, X16, ⟨ra, rfl, Nc16, Kc16, ra_A⟩, st16⟩ := own_callV X15 hx hZ hown (argsL := [(.int (2 : Int32))]) (rest := []) (own_toTell_con l Z a0 hw a12 rr mm hh r0 x1 x2 ms kk pr ch ii mq h0.size T14.heap I14 hk hq hq0 []) eh15 ex2 (hw _ (List.mem_of_getElem? (i := 66) rfl)) (hw _ (List.mem_of_getElem? (i := 67) rfl)) (hw _ (List.mem_of_getElem? (i := 69) rfl)) (hw _ (List.mem_of_getElem? (i := 68) rfl)) (hw _ (List.mem_of_getElem? (i := 9) rfl)) (hw _ (List.mem_of_getElem? (i := 70) rfl)) (notFace_of_selects (args := #[]) (mvT hZ (hw _ (List.mem_of_getElem? (i := 69) rfl)))) (by decide) (by decide +kernel : parseMethodDescriptor "(I)[J" = some ⟨[.int], (some (.array .long))⟩) rfl (g := (mkF m 105 #[.val (.long x0), .second, .val (.long x1), .second, .val (.long x2), .second, .val (.long x3), .second, .val (.long x4), .second, .val (.long x5), .second, .val (.long r0), .second, .val (.ref a1), .val (.ref a5), .val (.ref a12), .val (.int (1 : Int32)), .val (.int (own_ag (own_pick x3 r0) r0 (own_ag (own_pick x4 x1) x1 (own_ag (own_pick x5 x2) x2 1)))), .unset, .unset] [(.int (2 : Int32)), (.ref a12)])) rfl (by rw [hml]; rfl) rfl 0 (by show 2 * 0 + _ ≤ _; exact Nat.le_of_eq rfl) (hb hby at_105) (by decide) (by decide) (by decide) (by decide)
    have N16 := Fr.app N14 Nc16
    have o_E_16 := ex2.keep Kc16
    have d_A_16 := d_A_14.keep Kc16 nin0
    refine own_go st16 ?_
    show own_Go p e below _ (T16.setTop (mkF m 108 #[.val (.long x0), .second, .val (.long x1), .second, .val (.long x2), .second, .val (.long x3), .second, .val (.long x4), .second, .val (.long x5), .second, .val (.long r0), .second, .val (.ref a1), .val (.ref a5), .val (.ref a12), .val (.int (1 : Int32)), .val (.int (own_ag (own_pick x3 r0) r0 (own_ag (own_pick x4 x1) x1 (own_ag (own_pick x5 x2) x2 1)))), .unset, .unset] [(.ref ra)]))
    refine own_go (fun _ => XS.astore X16.here hx rfl (hb hby at_108) rfl rfl (l' := #[.val (.long x0), .second, .val (.long x1), .second, .val (.long x2), .second, .val (.long x3), .second, .val (.long x4), .second, .val (.long x5), .second, .val (.long r0), .second, .val (.ref a1), .val (.ref a5), .val (.ref a12), .val (.int (1 : Int32)), .val (.int (own_ag (own_pick x3 r0) r0 (own_ag (own_pick x4 x1) x1 (own_ag (own_pick x5 x2) x2 1)))), .val (.ref ra), .unset]) rfl) ?_
    show own_Go p e below _ (T16.setTop (mkF m 110 #[.val (.long x0), .second, .val (.long x1), .second, .val (.long x2), .second, .val (.long x3), .second, .val (.long x4), .second, .val (.long x5), .second, .val (.long r0), .second, .val (.ref a1), .val (.ref a5), .val (.ref a12), .val (.int (1 : Int32)), .val (.int (own_ag (own_pick x3 r0) r0 (own_ag (own_pick x4 x1) x1 (own_ag (own_pick x5 x2) x2 1)))), .val (.ref ra), .unset] []))
    refine own_go (fun _ => XS.aload X16.here hx rfl (hb hby at_110) rfl rfl) ?_
    show own_Go p e below _ (T16.setTop (mkF m 112 #[.val (.long x0), .second, .val (.long x1), .second, .val (.long x2), .second, .val (.long x3), .second, .val (.long x4), .second, .val (.long x5), .second, .val (.long r0), .second, .val (.ref a1), .val (.ref a5), .val (.ref a12), .val (.int (1 : Int32)), .val (.int (own_ag (own_pick x3 r0) r0 (own_ag (own_pick x4 x1) x1 (own_ag (own_pick x5 x2) x2 1)))), .val (.ref ra), .unset] [(.ref a5)]))
    refine own_go (fun _ => XS.iconst X16.here hx rfl (hb hby at_112)) ?_
    show own_Go p e below _ (T16.setTop (mkF m 113 #[.val (.long x0), .second, .val (.long x1), .second, .val (.long x2), .second, .val (.long x3), .second, .val (.long x4), .second, .val (.long x5), .second, .val (.long r0), .second, .val (.ref a1), .val (.ref a5), .val (.ref a12), .val (.int (1 : Int32)), .val (.int (own_ag (own_pick x3 r0) r0 (own_ag (own_pick x4 x1) x1 (own_ag (own_pick x5 x2) x2 1)))), .val (.ref ra), .unset] [(.int (0 : Int32)), (.ref a5)]))
    refine own_go (own_ldJ X16 hx hZ rfl d_A_16 (g := (mkF m 113 #[.val (.long x0), .second, .val (.long x1), .second, .val (.long x2), .second, .val (.long x3), .second, .val (.long x4), .second, .val (.long x5), .second, .val (.long r0), .second, .val (.ref a1), .val (.ref a5), .val (.ref a12), .val (.int (1 : Int32)), .val (.int (own_ag (own_pick x3 r0) r0 (own_ag (own_pick x4 x1) x1 (own_ag (own_pick x5 x2) x2 1)))), .val (.ref ra), .unset] [(.int (0 : Int32)), (.ref a5)])) rfl rfl (hb hby at_113) 0 (by decide) (x := (.long (own_pick x3 r0))) rfl) ?_
    show own_Go p e below _ (T16.setTop (mkF m 114 #[.val (.long x0), .second, .val (.long x1), .second, .val (.long x2), .second, .val (.long x3), .second, .val (.long x4), .second, .val (.long x5), .second, .val (.long r0), .second, .val (.ref a1), .val (.ref a5), .val (.ref a12), .val (.int (1 : Int32)), .val (.int (own_ag (own_pick x3 r0) r0 (own_ag (own_pick x4 x1) x1 (own_ag (own_pick x5 x2) x2 1)))), .val (.ref ra), .unset] [(.long (own_pick x3 r0))]))
    refine own_go (fun _ => XT.lload X16.here hx rfl (hb hby at_114) rfl) ?_
    show own_Go p e below _ (T16.setTop (mkF m 116 #[.val (.long x0), .second, .val (.long x1), .second, .val (.long x2), .second, .val (.long x3), .second, .val (.long x4), .second, .val (.long x5), .second, .val (.long r0), .second, .val (.ref a1), .val (.ref a5), .val (.ref a12), .val (.int (1 : Int32)), .val (.int (own_ag (own_pick x3 r0) r0 (own_ag (own_pick x4 x1) x1 (own_ag (own_pick x5 x2) x2 1)))), .val (.ref ra), .unset] [(.long r0), (.long (own_pick x3 r0))]))
    obtain ⟨T17, X17, e17, st17⟩ := own_callSP X16 hx hZ hown (argsL := [(.long (own_pick x3 r0)), (.long r0)]) (rest := []) (own_ok_con l Z a0 hw (own_pick x3 r0) r0 T16.heap []) rfl (hw _ (List.mem_of_getElem? (i := 85) rfl)) (hw _ (List.mem_of_getElem? (i := 86) rfl)) (hw _ (List.mem_of_getElem? (i := 4) rfl)) (hw _ (List.mem_of_getElem? (i := 87) rfl)) (by decide) (by decide +kernel : parseMethodDescriptor "(JJ)Z" = some ⟨[.long, .long], some .boolean⟩) rfl (g := (mkF m 116 #[.val (.long x0), .second, .val (.long x1), .second, .val (.long x2), .second, .val (.long x3), .second, .val (.long x4), .second, .val (.long x5), .second, .val (.long r0), .second, .val (.ref a1), .val (.ref a5), .val (.ref a12), .val (.int (1 : Int32)), .val (.int (own_ag (own_pick x3 r0) r0 (own_ag (own_pick x4 x1) x1 (own_ag (own_pick x5 x2) x2 1)))), .val (.ref ra), .unset] [(.long r0), (.long (own_pick x3 r0))])) rfl (by rw [hml]; rfl) rfl 0 (by show 2 * 0 + _ ≤ _; exact Nat.le_of_eq rfl) (hb hby at_116) (by decide) (by decide) rfl rfl (by decide) (by decide)
    refine own_go st17 ?_
    show own_Go p e below _ (T17.setTop (mkF m 119 #[.val (.long x0), .second, .val (.long x1), .second, .val (.long x2), .second, .val (.long x3), .second, .val (.long x4), .second, .val (.long x5), .second, .val (.long r0), .second, .val (.ref a1), .val (.ref a5), .val (.ref a12), .val (.int (1 : Int32)), .val (.int (own_ag (own_pick x3 r0) r0 (own_ag (own_pick x4 x1) x1 (own_ag (own_pick x5 x2) x2 1)))), .val (.ref ra), .unset] [(.int (own_ok (own_pick x3 r0) r0))]))
    by_cases ho0 : own_ok (own_pick x3 r0) r0 = (0 : Int32)
    · skip
      refine own_go (fun _ => XS.ifYes X17.here hx rfl (pc0 := 119) (pc' := 149) rfl (hb hby at_119) rfl (XT.i0_eq_t ho0) (by decide) (by decide)) ?_
      show own_Go p e below _ (T17.setTop (mkF m 149 #[.val (.long x0), .second, .val (.long x1), .second, .val (.long x2), .second, .val (.long x3), .second, .val (.long x4), .second, .val (.long x5), .second, .val (.long r0), .second, .val (.ref a1), .val (.ref a5), .val (.ref a12), .val (.int (1 : Int32)), .val (.int (own_ag (own_pick x3 r0) r0 (own_ag (own_pick x4 x1) x1 (own_ag (own_pick x5 x2) x2 1)))), .val (.ref ra), .unset] []))
      refine own_go (fun _ => XS.iconst X17.here hx rfl (hb hby at_149)) ?_
      show own_Go p e below _ (T17.setTop (mkF m 150 #[.val (.long x0), .second, .val (.long x1), .second, .val (.long x2), .second, .val (.long x3), .second, .val (.long x4), .second, .val (.long x5), .second, .val (.long r0), .second, .val (.ref a1), .val (.ref a5), .val (.ref a12), .val (.int (1 : Int32)), .val (.int (own_ag (own_pick x3 r0) r0 (own_ag (own_pick x4 x1) x1 (own_ag (own_pick x5 x2) x2 1)))), .val (.ref ra), .unset] [(.int (0 : Int32))]))
      refine own_go (fun _ => XS.istore X17.here hx rfl (hb hby at_150) rfl (l' := #[.val (.long x0), .second, .val (.long x1), .second, .val (.long x2), .second, .val (.long x3), .second, .val (.long x4), .second, .val (.long x5), .second, .val (.long r0), .second, .val (.ref a1), .val (.ref a5), .val (.ref a12), .val (.int (1 : Int32)), .val (.int (own_ag (own_pick x3 r0) r0 (own_ag (own_pick x4 x1) x1 (own_ag (own_pick x5 x2) x2 1)))), .val (.ref ra), .val (.int (0 : Int32))]) rfl) ?_
      show own_Go p e below _ (T17.setTop (mkF m 152 #[.val (.long x0), .second, .val (.long x1), .second, .val (.long x2), .second, .val (.long x3), .second, .val (.long x4), .second, .val (.long x5), .second, .val (.long r0), .second, .val (.ref a1), .val (.ref a5), .val (.ref a12), .val (.int (1 : Int32)), .val (.int (own_ag (own_pick x3 r0) r0 (own_ag (own_pick x4 x1) x1 (own_ag (own_pick x5 x2) x2 1)))), .val (.ref ra), .val (.int (0 : Int32))] []))
      refine own_go (fun _ => XS.iload X17.here hx rfl (hb hby at_152) rfl) ?_
      show own_Go p e below _ (T17.setTop (mkF m 154 #[.val (.long x0), .second, .val (.long x1), .second, .val (.long x2), .second, .val (.long x3), .second, .val (.long x4), .second, .val (.long x5), .second, .val (.long r0), .second, .val (.ref a1), .val (.ref a5), .val (.ref a12), .val (.int (1 : Int32)), .val (.int (own_ag (own_pick x3 r0) r0 (own_ag (own_pick x4 x1) x1 (own_ag (own_pick x5 x2) x2 1)))), .val (.ref ra), .val (.int (0 : Int32))] [(.int (1 : Int32))]))
      refine own_go (fun _ => XS.ifNo X17.here hx rfl (hb hby at_154) rfl (XT.i0_eq_f (by decide))) ?_
      show own_Go p e below _ (T17.setTop (mkF m 157 #[.val (.long x0), .second, .val (.long x1), .second, .val (.long x2), .second, .val (.long x3), .second, .val (.long x4), .second, .val (.long x5), .second, .val (.long r0), .second, .val (.ref a1), .val (.ref a5), .val (.ref a12), .val (.int (1 : Int32)), .val (.int (own_ag (own_pick x3 r0) r0 (own_ag (own_pick x4 x1) x1 (own_ag (own_pick x5 x2) x2 1)))), .val (.ref ra), .val (.int (0 : Int32))] []))
      refine own_go (fun _ => XS.iload X17.here hx rfl (hb hby at_157) rfl) ?_
      show own_Go p e below _ (T17.setTop (mkF m 159 #[.val (.long x0), .second, .val (.long x1), .second, .val (.long x2), .second, .val (.long x3), .second, .val (.long x4), .second, .val (.long x5), .second, .val (.long r0), .second, .val (.ref a1), .val (.ref a5), .val (.ref a12), .val (.int (1 : Int32)), .val (.int (own_ag (own_pick x3 r0) r0 (own_ag (own_pick x4 x1) x1 (own_ag (own_pick x5 x2) x2 1)))), .val (.ref ra), .val (.int (0 : Int32))] [(.int (own_ag (own_pick x3 r0) r0 (own_ag (own_pick x4 x1) x1 (own_ag (own_pick x5 x2) x2 1))))]))
      refine own_go (fun _ => XS.iload X17.here hx rfl (hb hby at_159) rfl) ?_
      show own_Go p e below _ (T17.setTop (mkF m 161 #[.val (.long x0), .second, .val (.long x1), .second, .val (.long x2), .second, .val (.long x3), .second, .val (.long x4), .second, .val (.long x5), .second, .val (.long r0), .second, .val (.ref a1), .val (.ref a5), .val (.ref a12), .val (.int (1 : Int32)), .val (.int (own_ag (own_pick x3 r0) r0 (own_ag (own_pick x4 x1) x1 (own_ag (own_pick x5 x2) x2 1)))), .val (.ref ra), .val (.int (0 : Int32))] [(.int (0 : Int32)), (.int (own_ag (own_pick x3 r0) r0 (own_ag (own_pick x4 x1) x1 (own_ag (own_pick x5 x2) x2 1))))]))
      have hag : (own_ag (own_pick x3 r0) r0 (own_ag (own_pick x4 x1) x1 (own_ag (own_pick x5 x2) x2 1))) = (0 : Int32) := by rw [own_ag_ok, own_ag_ok, own_ag_ok]; simp [ho0]
      refine own_go (fun _ => XS.icmpNo X17.here hx rfl (hb hby at_161) rfl (XT.ii_ne_f hag)) ?_
      show own_Go p e below _ (T17.setTop (mkF m 164 #[.val (.long x0), .second, .val (.long x1), .second, .val (.long x2), .second, .val (.long x3), .second, .val (.long x4), .second, .val (.long x5), .second, .val (.long r0), .second, .val (.ref a1), .val (.ref a5), .val (.ref a12), .val (.int (1 : Int32)), .val (.int (own_ag (own_pick x3 r0) r0 (own_ag (own_pick x4 x1) x1 (own_ag (own_pick x5 x2) x2 1)))), .val (.ref ra), .val (.int (0 : Int32))] []))
      refine own_go (fun _ => XS.aload X17.here hx rfl (hb hby at_164) rfl rfl) ?_
      show own_Go p e below _ (T17.setTop (mkF m 166 #[.val (.long x0), .second, .val (.long x1), .second, .val (.long x2), .second, .val (.long x3), .second, .val (.long x4), .second, .val (.long x5), .second, .val (.long r0), .second, .val (.ref a1), .val (.ref a5), .val (.ref a12), .val (.int (1 : Int32)), .val (.int (own_ag (own_pick x3 r0) r0 (own_ag (own_pick x4 x1) x1 (own_ag (own_pick x5 x2) x2 1)))), .val (.ref ra), .val (.int (0 : Int32))] [(.ref ra)]))
      refine own_go (fun _ => XS.ifnullNo X17.here hx rfl (hb hby at_166) rfl) ?_
      show own_Go p e below _ (T17.setTop (mkF m 169 #[.val (.long x0), .second, .val (.long x1), .second, .val (.long x2), .second, .val (.long x3), .second, .val (.long x4), .second, .val (.long x5), .second, .val (.long r0), .second, .val (.ref a1), .val (.ref a5), .val (.ref a12), .val (.int (1 : Int32)), .val (.int (own_ag (own_pick x3 r0) r0 (own_ag (own_pick x4 x1) x1 (own_ag (own_pick x5 x2) x2 1)))), .val (.ref ra), .val (.int (0 : Int32))] []))
      refine own_go (fun _ => XS.aload X17.here hx rfl (hb hby at_169) rfl rfl) ?_
      show own_Go p e below _ (T17.setTop (mkF m 171 #[.val (.long x0), .second, .val (.long x1), .second, .val (.long x2), .second, .val (.long x3), .second, .val (.long x4), .second, .val (.long x5), .second, .val (.long r0), .second, .val (.ref a1), .val (.ref a5), .val (.ref a12), .val (.int (1 : Int32)), .val (.int (own_ag (own_pick x3 r0) r0 (own_ag (own_pick x4 x1) x1 (own_ag (own_pick x5 x2) x2 1)))), .val (.ref ra), .val (.int (0 : Int32))] [(.ref ra)]))
      refine own_go (own_len X17 hx hZ e17 ra_A (g := (mkF m 171 #[.val (.long x0), .second, .val (.long x1), .second, .val (.long x2), .second, .val (.long x3), .second, .val (.long x4), .second, .val (.long x5), .second, .val (.long r0), .second, .val (.ref a1), .val (.ref a5), .val (.ref a12), .val (.int (1 : Int32)), .val (.int (own_ag (own_pick x3 r0) r0 (own_ag (own_pick x4 x1) x1 (own_ag (own_pick x5 x2) x2 1)))), .val (.ref ra), .val (.int (0 : Int32))] [(.ref ra)])) rfl rfl (hb hby at_171) (3 : Int32) rfl) ?_
      show own_Go p e below _ (T17.setTop (mkF m 172 #[.val (.long x0), .second, .val (.long x1), .second, .val (.long x2), .second, .val (.long x3), .second, .val (.long x4), .second, .val (.long x5), .second, .val (.long r0), .second, .val (.ref a1), .val (.ref a5), .val (.ref a12), .val (.int (1 : Int32)), .val (.int (own_ag (own_pick x3 r0) r0 (own_ag (own_pick x4 x1) x1 (own_ag (own_pick x5 x2) x2 1)))), .val (.ref ra), .val (.int (0 : Int32))] [(.int (3 : Int32))]))
      refine own_go (fun _ => XS.iconst X17.here hx rfl (hb hby at_172)) ?_
      show own_Go p e below _ (T17.setTop (mkF m 173 #[.val (.long x0), .second, .val (.long x1), .second, .val (.long x2), .second, .val (.long x3), .second, .val (.long x4), .second, .val (.long x5), .second, .val (.long r0), .second, .val (.ref a1), .val (.ref a5), .val (.ref a12), .val (.int (1 : Int32)), .val (.int (own_ag (own_pick x3 r0) r0 (own_ag (own_pick x4 x1) x1 (own_ag (own_pick x5 x2) x2 1)))), .val (.ref ra), .val (.int (0 : Int32))] [(.int (3 : Int32)), (.int (3 : Int32))]))
      refine own_go (fun _ => XS.icmpYes X17.here hx rfl (pc0 := 173) (pc' := 178) rfl (hb hby at_173) rfl (XT.ii_eq_t (by decide)) (by decide) (by decide)) ?_
      show own_Go p e below _ (T17.setTop (mkF m 178 #[.val (.long x0), .second, .val (.long x1), .second, .val (.long x2), .second, .val (.long x3), .second, .val (.long x4), .second, .val (.long x5), .second, .val (.long r0), .second, .val (.ref a1), .val (.ref a5), .val (.ref a12), .val (.int (1 : Int32)), .val (.int (own_ag (own_pick x3 r0) r0 (own_ag (own_pick x4 x1) x1 (own_ag (own_pick x5 x2) x2 1)))), .val (.ref ra), .val (.int (0 : Int32))] []))
      refine own_go (fun _ => XS.aload X17.here hx rfl (hb hby at_178) rfl rfl) ?_
      show own_Go p e below _ (T17.setTop (mkF m 180 #[.val (.long x0), .second, .val (.long x1), .second, .val (.long x2), .second, .val (.long x3), .second, .val (.long x4), .second, .val (.long x5), .second, .val (.long r0), .second, .val (.ref a1), .val (.ref a5), .val (.ref a12), .val (.int (1 : Int32)), .val (.int (own_ag (own_pick x3 r0) r0 (own_ag (own_pick x4 x1) x1 (own_ag (own_pick x5 x2) x2 1)))), .val (.ref ra), .val (.int (0 : Int32))] [(.ref ra)]))
      refine own_go (fun _ => XS.iconst X17.here hx rfl (hb hby at_180)) ?_
      show own_Go p e below _ (T17.setTop (mkF m 181 #[.val (.long x0), .second, .val (.long x1), .second, .val (.long x2), .second, .val (.long x3), .second, .val (.long x4), .second, .val (.long x5), .second, .val (.long r0), .second, .val (.ref a1), .val (.ref a5), .val (.ref a12), .val (.int (1 : Int32)), .val (.int (own_ag (own_pick x3 r0) r0 (own_ag (own_pick x4 x1) x1 (own_ag (own_pick x5 x2) x2 1)))), .val (.ref ra), .val (.int (0 : Int32))] [(.int (0 : Int32)), (.ref ra)]))
      refine own_go (own_ldJ X17 hx hZ e17 ra_A (g := (mkF m 181 #[.val (.long x0), .second, .val (.long x1), .second, .val (.long x2), .second, .val (.long x3), .second, .val (.long x4), .second, .val (.long x5), .second, .val (.long r0), .second, .val (.ref a1), .val (.ref a5), .val (.ref a12), .val (.int (1 : Int32)), .val (.int (own_ag (own_pick x3 r0) r0 (own_ag (own_pick x4 x1) x1 (own_ag (own_pick x5 x2) x2 1)))), .val (.ref ra), .val (.int (0 : Int32))] [(.int (0 : Int32)), (.ref ra)])) rfl rfl (hb hby at_181) 0 (by decide) (x := (.long r0)) rfl) ?_
      show own_Go p e below _ (T17.setTop (mkF m 182 #[.val (.long x0), .second, .val (.long x1), .second, .val (.long x2), .second, .val (.long x3), .second, .val (.long x4), .second, .val (.long x5), .second, .val (.long r0), .second, .val (.ref a1), .val (.ref a5), .val (.ref a12), .val (.int (1 : Int32)), .val (.int (own_ag (own_pick x3 r0) r0 (own_ag (own_pick x4 x1) x1 (own_ag (own_pick x5 x2) x2 1)))), .val (.ref ra), .val (.int (0 : Int32))] [(.long r0)]))
      refine own_go (fun _ => XT.lload X17.here hx rfl (hb hby at_182) rfl) ?_
      show own_Go p e below _ (T17.setTop (mkF m 184 #[.val (.long x0), .second, .val (.long x1), .second, .val (.long x2), .second, .val (.long x3), .second, .val (.long x4), .second, .val (.long x5), .second, .val (.long r0), .second, .val (.ref a1), .val (.ref a5), .val (.ref a12), .val (.int (1 : Int32)), .val (.int (own_ag (own_pick x3 r0) r0 (own_ag (own_pick x4 x1) x1 (own_ag (own_pick x5 x2) x2 1)))), .val (.ref ra), .val (.int (0 : Int32))] [(.long r0), (.long r0)]))
      refine own_go (fun _ => XT.lcmp X17.here hx rfl (hb hby at_184) rfl) ?_
      show own_Go p e below _ (T17.setTop (mkF m 185 #[.val (.long x0), .second, .val (.long x1), .second, .val (.long x2), .second, .val (.long x3), .second, .val (.long x4), .second, .val (.long x5), .second, .val (.long r0), .second, .val (.ref a1), .val (.ref a5), .val (.ref a12), .val (.int (1 : Int32)), .val (.int (own_ag (own_pick x3 r0) r0 (own_ag (own_pick x4 x1) x1 (own_ag (own_pick x5 x2) x2 1)))), .val (.ref ra), .val (.int (0 : Int32))] [(.int (XT.cmpL r0 r0))]))
      refine own_go (fun _ => XS.ifNo X17.here hx rfl (hb hby at_185) rfl (XT.ll_ne_f rfl)) ?_
      show own_Go p e below _ (T17.setTop (mkF m 188 #[.val (.long x0), .second, .val (.long x1), .second, .val (.long x2), .second, .val (.long x3), .second, .val (.long x4), .second, .val (.long x5), .second, .val (.long r0), .second, .val (.ref a1), .val (.ref a5), .val (.ref a12), .val (.int (1 : Int32)), .val (.int (own_ag (own_pick x3 r0) r0 (own_ag (own_pick x4 x1) x1 (own_ag (own_pick x5 x2) x2 1)))), .val (.ref ra), .val (.int (0 : Int32))] []))
      refine own_go (fun _ => XS.aload X17.here hx rfl (hb hby at_188) rfl rfl) ?_
      show own_Go p e below _ (T17.setTop (mkF m 190 #[.val (.long x0), .second, .val (.long x1), .second, .val (.long x2), .second, .val (.long x3), .second, .val (.long x4), .second, .val (.long x5), .second, .val (.long r0), .second, .val (.ref a1), .val (.ref a5), .val (.ref a12), .val (.int (1 : Int32)), .val (.int (own_ag (own_pick x3 r0) r0 (own_ag (own_pick x4 x1) x1 (own_ag (own_pick x5 x2) x2 1)))), .val (.ref ra), .val (.int (0 : Int32))] [(.ref ra)]))
      refine own_go (fun _ => XS.iconst X17.here hx rfl (hb hby at_190)) ?_
      show own_Go p e below _ (T17.setTop (mkF m 191 #[.val (.long x0), .second, .val (.long x1), .second, .val (.long x2), .second, .val (.long x3), .second, .val (.long x4), .second, .val (.long x5), .second, .val (.long r0), .second, .val (.ref a1), .val (.ref a5), .val (.ref a12), .val (.int (1 : Int32)), .val (.int (own_ag (own_pick x3 r0) r0 (own_ag (own_pick x4 x1) x1 (own_ag (own_pick x5 x2) x2 1)))), .val (.ref ra), .val (.int (0 : Int32))] [(.int (1 : Int32)), (.ref ra)]))
      refine own_go (own_ldJ X17 hx hZ e17 ra_A (g := (mkF m 191 #[.val (.long x0), .second, .val (.long x1), .second, .val (.long x2), .second, .val (.long x3), .second, .val (.long x4), .second, .val (.long x5), .second, .val (.long r0), .second, .val (.ref a1), .val (.ref a5), .val (.ref a12), .val (.int (1 : Int32)), .val (.int (own_ag (own_pick x3 r0) r0 (own_ag (own_pick x4 x1) x1 (own_ag (own_pick x5 x2) x2 1)))), .val (.ref ra), .val (.int (0 : Int32))] [(.int (1 : Int32)), (.ref ra)])) rfl rfl (hb hby at_191) 1 (by decide) (x := (.long x1)) rfl) ?_
      show own_Go p e below _ (T17.setTop (mkF m 192 #[.val (.long x0), .second, .val (.long x1), .second, .val (.long x2), .second, .val (.long x3), .second, .val (.long x4), .second, .val (.long x5), .second, .val (.long r0), .second, .val (.ref a1), .val (.ref a5), .val (.ref a12), .val (.int (1 : Int32)), .val (.int (own_ag (own_pick x3 r0) r0 (own_ag (own_pick x4 x1) x1 (own_ag (own_pick x5 x2) x2 1)))), .val (.ref ra), .val (.int (0 : Int32))] [(.long x1)]))
      refine own_go (fun _ => XT.lloadN X17.here hx rfl (hb hby at_192) rfl) ?_
      show own_Go p e below _ (T17.setTop (mkF m 193 #[.val (.long x0), .second, .val (.long x1), .second, .val (.long x2), .second, .val (.long x3), .second, .val (.long x4), .second, .val (.long x5), .second, .val (.long r0), .second, .val (.ref a1), .val (.ref a5), .val (.ref a12), .val (.int (1 : Int32)), .val (.int (own_ag (own_pick x3 r0) r0 (own_ag (own_pick x4 x1) x1 (own_ag (own_pick x5 x2) x2 1)))), .val (.ref ra), .val (.int (0 : Int32))] [(.long x1), (.long x1)]))
      refine own_go (fun _ => XT.lcmp X17.here hx rfl (hb hby at_193) rfl) ?_
      show own_Go p e below _ (T17.setTop (mkF m 194 #[.val (.long x0), .second, .val (.long x1), .second, .val (.long x2), .second, .val (.long x3), .second, .val (.long x4), .second, .val (.long x5), .second, .val (.long r0), .second, .val (.ref a1), .val (.ref a5), .val (.ref a12), .val (.int (1 : Int32)), .val (.int (own_ag (own_pick x3 r0) r0 (own_ag (own_pick x4 x1) x1 (own_ag (own_pick x5 x2) x2 1)))), .val (.ref ra), .val (.int (0 : Int32))] [(.int (XT.cmpL x1 x1))]))
      refine own_go (fun _ => XS.ifNo X17.here hx rfl (hb hby at_194) rfl (XT.ll_ne_f rfl)) ?_
      show own_Go p e below _ (T17.setTop (mkF m 197 #[.val (.long x0), .second, .val (.long x1), .second, .val (.long x2), .second, .val (.long x3), .second, .val (.long x4), .second, .val (.long x5), .second, .val (.long r0), .second, .val (.ref a1), .val (.ref a5), .val (.ref a12), .val (.int (1 : Int32)), .val (.int (own_ag (own_pick x3 r0) r0 (own_ag (own_pick x4 x1) x1 (own_ag (own_pick x5 x2) x2 1)))), .val (.ref ra), .val (.int (0 : Int32))] []))
      refine own_go (fun _ => XS.aload X17.here hx rfl (hb hby at_197) rfl rfl) ?_
      show own_Go p e below _ (T17.setTop (mkF m 199 #[.val (.long x0), .second, .val (.long x1), .second, .val (.long x2), .second, .val (.long x3), .second, .val (.long x4), .second, .val (.long x5), .second, .val (.long r0), .second, .val (.ref a1), .val (.ref a5), .val (.ref a12), .val (.int (1 : Int32)), .val (.int (own_ag (own_pick x3 r0) r0 (own_ag (own_pick x4 x1) x1 (own_ag (own_pick x5 x2) x2 1)))), .val (.ref ra), .val (.int (0 : Int32))] [(.ref ra)]))
      refine own_go (fun _ => XS.iconst X17.here hx rfl (hb hby at_199)) ?_
      show own_Go p e below _ (T17.setTop (mkF m 200 #[.val (.long x0), .second, .val (.long x1), .second, .val (.long x2), .second, .val (.long x3), .second, .val (.long x4), .second, .val (.long x5), .second, .val (.long r0), .second, .val (.ref a1), .val (.ref a5), .val (.ref a12), .val (.int (1 : Int32)), .val (.int (own_ag (own_pick x3 r0) r0 (own_ag (own_pick x4 x1) x1 (own_ag (own_pick x5 x2) x2 1)))), .val (.ref ra), .val (.int (0 : Int32))] [(.int (2 : Int32)), (.ref ra)]))
      refine own_go (own_ldJ X17 hx hZ e17 ra_A (g := (mkF m 200 #[.val (.long x0), .second, .val (.long x1), .second, .val (.long x2), .second, .val (.long x3), .second, .val (.long x4), .second, .val (.long x5), .second, .val (.long r0), .second, .val (.ref a1), .val (.ref a5), .val (.ref a12), .val (.int (1 : Int32)), .val (.int (own_ag (own_pick x3 r0) r0 (own_ag (own_pick x4 x1) x1 (own_ag (own_pick x5 x2) x2 1)))), .val (.ref ra), .val (.int (0 : Int32))] [(.int (2 : Int32)), (.ref ra)])) rfl rfl (hb hby at_200) 2 (by decide) (x := (.long x2)) rfl) ?_
      show own_Go p e below _ (T17.setTop (mkF m 201 #[.val (.long x0), .second, .val (.long x1), .second, .val (.long x2), .second, .val (.long x3), .second, .val (.long x4), .second, .val (.long x5), .second, .val (.long r0), .second, .val (.ref a1), .val (.ref a5), .val (.ref a12), .val (.int (1 : Int32)), .val (.int (own_ag (own_pick x3 r0) r0 (own_ag (own_pick x4 x1) x1 (own_ag (own_pick x5 x2) x2 1)))), .val (.ref ra), .val (.int (0 : Int32))] [(.long x2)]))
      refine own_go (fun _ => XT.lload X17.here hx rfl (hb hby at_201) rfl) ?_
      show own_Go p e below _ (T17.setTop (mkF m 203 #[.val (.long x0), .second, .val (.long x1), .second, .val (.long x2), .second, .val (.long x3), .second, .val (.long x4), .second, .val (.long x5), .second, .val (.long r0), .second, .val (.ref a1), .val (.ref a5), .val (.ref a12), .val (.int (1 : Int32)), .val (.int (own_ag (own_pick x3 r0) r0 (own_ag (own_pick x4 x1) x1 (own_ag (own_pick x5 x2) x2 1)))), .val (.ref ra), .val (.int (0 : Int32))] [(.long x2), (.long x2)]))
      refine own_go (fun _ => XT.lcmp X17.here hx rfl (hb hby at_203) rfl) ?_
      show own_Go p e below _ (T17.setTop (mkF m 204 #[.val (.long x0), .second, .val (.long x1), .second, .val (.long x2), .second, .val (.long x3), .second, .val (.long x4), .second, .val (.long x5), .second, .val (.long r0), .second, .val (.ref a1), .val (.ref a5), .val (.ref a12), .val (.int (1 : Int32)), .val (.int (own_ag (own_pick x3 r0) r0 (own_ag (own_pick x4 x1) x1 (own_ag (own_pick x5 x2) x2 1)))), .val (.ref ra), .val (.int (0 : Int32))] [(.int (XT.cmpL x2 x2))]))
      refine own_go (fun _ => XS.ifNo X17.here hx rfl (hb hby at_204) rfl (XT.ll_ne_f rfl)) ?_
      show own_Go p e below _ (T17.setTop (mkF m 207 #[.val (.long x0), .second, .val (.long x1), .second, .val (.long x2), .second, .val (.long x3), .second, .val (.long x4), .second, .val (.long x5), .second, .val (.long r0), .second, .val (.ref a1), .val (.ref a5), .val (.ref a12), .val (.int (1 : Int32)), .val (.int (own_ag (own_pick x3 r0) r0 (own_ag (own_pick x4 x1) x1 (own_ag (own_pick x5 x2) x2 1)))), .val (.ref ra), .val (.int (0 : Int32))] []))
      refine own_go (fun _ => XS.iconst X17.here hx rfl (hb hby at_207)) ?_
      show own_Go p e below _ (T17.setTop (mkF m 208 #[.val (.long x0), .second, .val (.long x1), .second, .val (.long x2), .second, .val (.long x3), .second, .val (.long x4), .second, .val (.long x5), .second, .val (.long r0), .second, .val (.ref a1), .val (.ref a5), .val (.ref a12), .val (.int (1 : Int32)), .val (.int (own_ag (own_pick x3 r0) r0 (own_ag (own_pick x4 x1) x1 (own_ag (own_pick x5 x2) x2 1)))), .val (.ref ra), .val (.int (0 : Int32))] [(.int (1 : Int32))]))
      refine own_go (fun _ => XS.goto X17.here hx rfl (pc0 := 208) (pc' := 212) rfl (hb hby at_208) (by decide) (by decide)) ?_
      show own_Go p e below _ (T17.setTop (mkF m 212 #[.val (.long x0), .second, .val (.long x1), .second, .val (.long x2), .second, .val (.long x3), .second, .val (.long x4), .second, .val (.long x5), .second, .val (.long r0), .second, .val (.ref a1), .val (.ref a5), .val (.ref a12), .val (.int (1 : Int32)), .val (.int (own_ag (own_pick x3 r0) r0 (own_ag (own_pick x4 x1) x1 (own_ag (own_pick x5 x2) x2 1)))), .val (.ref ra), .val (.int (0 : Int32))] [(.int (1 : Int32))]))
      exact own_iret X17 hx hlk hret (Or.inr (Or.inl rfl)) rfl (hb hby at_212) (by decide) (by decide) ⟨rfl, N16⟩
    · skip
      refine own_go (fun _ => XS.ifNo X17.here hx rfl (hb hby at_119) rfl (XT.i0_eq_f ho0)) ?_
      show own_Go p e below _ (T17.setTop (mkF m 122 #[.val (.long x0), .second, .val (.long x1), .second, .val (.long x2), .second, .val (.long x3), .second, .val (.long x4), .second, .val (.long x5), .second, .val (.long r0), .second, .val (.ref a1), .val (.ref a5), .val (.ref a12), .val (.int (1 : Int32)), .val (.int (own_ag (own_pick x3 r0) r0 (own_ag (own_pick x4 x1) x1 (own_ag (own_pick x5 x2) x2 1)))), .val (.ref ra), .unset] []))
      refine own_go (fun _ => XS.aload X17.here hx rfl (hb hby at_122) rfl rfl) ?_
      show own_Go p e below _ (T17.setTop (mkF m 124 #[.val (.long x0), .second, .val (.long x1), .second, .val (.long x2), .second, .val (.long x3), .second, .val (.long x4), .second, .val (.long x5), .second, .val (.long r0), .second, .val (.ref a1), .val (.ref a5), .val (.ref a12), .val (.int (1 : Int32)), .val (.int (own_ag (own_pick x3 r0) r0 (own_ag (own_pick x4 x1) x1 (own_ag (own_pick x5 x2) x2 1)))), .val (.ref ra), .unset] [(.ref a5)]))
      refine own_go (fun _ => XS.iconst X17.here hx rfl (hb hby at_124)) ?_
      show own_Go p e below _ (T17.setTop (mkF m 125 #[.val (.long x0), .second, .val (.long x1), .second, .val (.long x2), .second, .val (.long x3), .second, .val (.long x4), .second, .val (.long x5), .second, .val (.long r0), .second, .val (.ref a1), .val (.ref a5), .val (.ref a12), .val (.int (1 : Int32)), .val (.int (own_ag (own_pick x3 r0) r0 (own_ag (own_pick x4 x1) x1 (own_ag (own_pick x5 x2) x2 1)))), .val (.ref ra), .unset] [(.int (1 : Int32)), (.ref a5)]))
      refine own_go (own_ldJ X17 hx hZ e17 d_A_16 (g := (mkF m 125 #[.val (.long x0), .second, .val (.long x1), .second, .val (.long x2), .second, .val (.long x3), .second, .val (.long x4), .second, .val (.long x5), .second, .val (.long r0), .second, .val (.ref a1), .val (.ref a5), .val (.ref a12), .val (.int (1 : Int32)), .val (.int (own_ag (own_pick x3 r0) r0 (own_ag (own_pick x4 x1) x1 (own_ag (own_pick x5 x2) x2 1)))), .val (.ref ra), .unset] [(.int (1 : Int32)), (.ref a5)])) rfl rfl (hb hby at_125) 1 (by decide) (x := (.long (own_pick x4 x1))) rfl) ?_
      show own_Go p e below _ (T17.setTop (mkF m 126 #[.val (.long x0), .second, .val (.long x1), .second, .val (.long x2), .second, .val (.long x3), .second, .val (.long x4), .second, .val (.long x5), .second, .val (.long r0), .second, .val (.ref a1), .val (.ref a5), .val (.ref a12), .val (.int (1 : Int32)), .val (.int (own_ag (own_pick x3 r0) r0 (own_ag (own_pick x4 x1) x1 (own_ag (own_pick x5 x2) x2 1)))), .val (.ref ra), .unset] [(.long (own_pick x4 x1))]))
      refine own_go (fun _ => XT.lloadN X17.here hx rfl (hb hby at_126) rfl) ?_
      show own_Go p e below _ (T17.setTop (mkF m 127 #[.val (.long x0), .second, .val (.long x1), .second, .val (.long x2), .second, .val (.long x3), .second, .val (.long x4), .second, .val (.long x5), .second, .val (.long r0), .second, .val (.ref a1), .val (.ref a5), .val (.ref a12), .val (.int (1 : Int32)), .val (.int (own_ag (own_pick x3 r0) r0 (own_ag (own_pick x4 x1) x1 (own_ag (own_pick x5 x2) x2 1)))), .val (.ref ra), .unset] [(.long x1), (.long (own_pick x4 x1))]))
      obtain ⟨T18, X18, e18, st18⟩ := own_callSP X17 hx hZ hown (argsL := [(.long (own_pick x4 x1)), (.long x1)]) (rest := []) (own_ok_con l Z a0 hw (own_pick x4 x1) x1 T16.heap []) e17 (hw _ (List.mem_of_getElem? (i := 85) rfl)) (hw _ (List.mem_of_getElem? (i := 86) rfl)) (hw _ (List.mem_of_getElem? (i := 4) rfl)) (hw _ (List.mem_of_getElem? (i := 87) rfl)) (by decide) (by decide +kernel : parseMethodDescriptor "(JJ)Z" = some ⟨[.long, .long], some .boolean⟩) rfl (g := (mkF m 127 #[.val (.long x0), .second, .val (.long x1), .second, .val (.long x2), .second, .val (.long x3), .second, .val (.long x4), .second, .val (.long x5), .second, .val (.long r0), .second, .val (.ref a1), .val (.ref a5), .val (.ref a12), .val (.int (1 : Int32)), .val (.int (own_ag (own_pick x3 r0) r0 (own_ag (own_pick x4 x1) x1 (own_ag (own_pick x5 x2) x2 1)))), .val (.ref ra), .unset] [(.long x1), (.long (own_pick x4 x1))])) rfl (by rw [hml]; rfl) rfl 0 (by show 2 * 0 + _ ≤ _; exact Nat.le_of_eq rfl) (hb hby at_127) (by decide) (by decide) rfl rfl (by decide) (by decide)
      refine own_go st18 ?_
      show own_Go p e below _ (T18.setTop (mkF m 130 #[.val (.long x0), .second, .val (.long x1), .second, .val (.long x2), .second, .val (.long x3), .second, .val (.long x4), .second, .val (.long x5), .second, .val (.long r0), .second, .val (.ref a1), .val (.ref a5), .val (.ref a12), .val (.int (1 : Int32)), .val (.int (own_ag (own_pick x3 r0) r0 (own_ag (own_pick x4 x1) x1 (own_ag (own_pick x5 x2) x2 1)))), .val (.ref ra), .unset] [(.int (own_ok (own_pick x4 x1) x1))]))
      by_cases ho1 : own_ok (own_pick x4 x1) x1 = (0 : Int32)
      · skip
        refine own_go (fun _ => XS.ifYes X18.here hx rfl (pc0 := 130) (pc' := 149) rfl (hb hby at_130) rfl (XT.i0_eq_t ho1) (by decide) (by decide)) ?_
        show own_Go p e below _ (T18.setTop (mkF m 149 #[.val (.long x0), .second, .val (.long x1), .second, .val (.long x2), .second, .val (.long x3), .second, .val (.long x4), .second, .val (.long x5), .second, .val (.long r0), .second, .val (.ref a1), .val (.ref a5), .val (.ref a12), .val (.int (1 : Int32)), .val (.int (own_ag (own_pick x3 r0) r0 (own_ag (own_pick x4 x1) x1 (own_ag (own_pick x5 x2) x2 1)))), .val (.ref ra), .unset] []))
        refine own_go (fun _ => XS.iconst X18.here hx rfl (hb hby at_149)) ?_
        show own_Go p e below _ (T18.setTop (mkF m 150 #[.val (.long x0), .second, .val (.long x1), .second, .val (.long x2), .second, .val (.long x3), .second, .val (.long x4), .second, .val (.long x5), .second, .val (.long r0), .second, .val (.ref a1), .val (.ref a5), .val (.ref a12), .val (.int (1 : Int32)), .val (.int (own_ag (own_pick x3 r0) r0 (own_ag (own_pick x4 x1) x1 (own_ag (own_pick x5 x2) x2 1)))), .val (.ref ra), .unset] [(.int (0 : Int32))]))
        refine own_go (fun _ => XS.istore X18.here hx rfl (hb hby at_150) rfl (l' := #[.val (.long x0), .second, .val (.long x1), .second, .val (.long x2), .second, .val (.long x3), .second, .val (.long x4), .second, .val (.long x5), .second, .val (.long r0), .second, .val (.ref a1), .val (.ref a5), .val (.ref a12), .val (.int (1 : Int32)), .val (.int (own_ag (own_pick x3 r0) r0 (own_ag (own_pick x4 x1) x1 (own_ag (own_pick x5 x2) x2 1)))), .val (.ref ra), .val (.int (0 : Int32))]) rfl) ?_
        show own_Go p e below _ (T18.setTop (mkF m 152 #[.val (.long x0), .second, .val (.long x1), .second, .val (.long x2), .second, .val (.long x3), .second, .val (.long x4), .second, .val (.long x5), .second, .val (.long r0), .second, .val (.ref a1), .val (.ref a5), .val (.ref a12), .val (.int (1 : Int32)), .val (.int (own_ag (own_pick x3 r0) r0 (own_ag (own_pick x4 x1) x1 (own_ag (own_pick x5 x2) x2 1)))), .val (.ref ra), .val (.int (0 : Int32))] []))
        refine own_go (fun _ => XS.iload X18.here hx rfl (hb hby at_152) rfl) ?_
        show own_Go p e below _ (T18.setTop (mkF m 154 #[.val (.long x0), .second, .val (.long x1), .second, .val (.long x2), .second, .val (.long x3), .second, .val (.long x4), .second, .val (.long x5), .second, .val (.long r0), .second, .val (.ref a1), .val (.ref a5), .val (.ref a12), .val (.int (1 : Int32)), .val (.int (own_ag (own_pick x3 r0) r0 (own_ag (own_pick x4 x1) x1 (own_ag (own_pick x5 x2) x2 1)))), .val (.ref ra), .val (.int (0 : Int32))] [(.int (1 : Int32))]))
        refine own_go (fun _ => XS.ifNo X18.here hx rfl (hb hby at_154) rfl (XT.i0_eq_f (by decide))) ?_
        show own_Go p e below _ (T18.setTop (mkF m 157 #[.val (.long x0), .second, .val (.long x1), .second, .val (.long x2), .second, .val (.long x3), .second, .val (.long x4), .second, .val (.long x5), .second, .val (.long r0), .second, .val (.ref a1), .val (.ref a5), .val (.ref a12), .val (.int (1 : Int32)), .val (.int (own_ag (own_pick x3 r0) r0 (own_ag (own_pick x4 x1) x1 (own_ag (own_pick x5 x2) x2 1)))), .val (.ref ra), .val (.int (0 : Int32))] []))
        refine own_go (fun _ => XS.iload X18.here hx rfl (hb hby at_157) rfl) ?_
        show own_Go p e below _ (T18.setTop (mkF m 159 #[.val (.long x0), .second, .val (.long x1), .second, .val (.long x2), .second, .val (.long x3), .second, .val (.long x4), .second, .val (.long x5), .second, .val (.long r0), .second, .val (.ref a1), .val (.ref a5), .val (.ref a12), .val (.int (1 : Int32)), .val (.int (own_ag (own_pick x3 r0) r0 (own_ag (own_pick x4 x1) x1 (own_ag (own_pick x5 x2) x2 1)))), .val (.ref ra), .val (.int (0 : Int32))] [(.int (own_ag (own_pick x3 r0) r0 (own_ag (own_pick x4 x1) x1 (own_ag (own_pick x5 x2) x2 1))))]))
        refine own_go (fun _ => XS.iload X18.here hx rfl (hb hby at_159) rfl) ?_
        show own_Go p e below _ (T18.setTop (mkF m 161 #[.val (.long x0), .second, .val (.long x1), .second, .val (.long x2), .second, .val (.long x3), .second, .val (.long x4), .second, .val (.long x5), .second, .val (.long r0), .second, .val (.ref a1), .val (.ref a5), .val (.ref a12), .val (.int (1 : Int32)), .val (.int (own_ag (own_pick x3 r0) r0 (own_ag (own_pick x4 x1) x1 (own_ag (own_pick x5 x2) x2 1)))), .val (.ref ra), .val (.int (0 : Int32))] [(.int (0 : Int32)), (.int (own_ag (own_pick x3 r0) r0 (own_ag (own_pick x4 x1) x1 (own_ag (own_pick x5 x2) x2 1))))]))
        have hag : (own_ag (own_pick x3 r0) r0 (own_ag (own_pick x4 x1) x1 (own_ag (own_pick x5 x2) x2 1))) = (0 : Int32) := by rw [own_ag_ok, own_ag_ok, own_ag_ok]; simp [ho0, ho1]
        refine own_go (fun _ => XS.icmpNo X18.here hx rfl (hb hby at_161) rfl (XT.ii_ne_f hag)) ?_
        show own_Go p e below _ (T18.setTop (mkF m 164 #[.val (.long x0), .second, .val (.long x1), .second, .val (.long x2), .second, .val (.long x3), .second, .val (.long x4), .second, .val (.long x5), .second, .val (.long r0), .second, .val (.ref a1), .val (.ref a5), .val (.ref a12), .val (.int (1 : Int32)), .val (.int (own_ag (own_pick x3 r0) r0 (own_ag (own_pick x4 x1) x1 (own_ag (own_pick x5 x2) x2 1)))), .val (.ref ra), .val (.int (0 : Int32))] []))
        refine own_go (fun _ => XS.aload X18.here hx rfl (hb hby at_164) rfl rfl) ?_
        show own_Go p e below _ (T18.setTop (mkF m 166 #[.val (.long x0), .second, .val (.long x1), .second, .val (.long x2), .second, .val (.long x3), .second, .val (.long x4), .second, .val (.long x5), .second, .val (.long r0), .second, .val (.ref a1), .val (.ref a5), .val (.ref a12), .val (.int (1 : Int32)), .val (.int (own_ag (own_pick x3 r0) r0 (own_ag (own_pick x4 x1) x1 (own_ag (own_pick x5 x2) x2 1)))), .val (.ref ra), .val (.int (0 : Int32))] [(.ref ra)]))
        refine own_go (fun _ => XS.ifnullNo X18.here hx rfl (hb hby at_166) rfl) ?_
        show own_Go p e below _ (T18.setTop (mkF m 169 #[.val (.long x0), .second, .val (.long x1), .second, .val (.long x2), .second, .val (.long x3), .second, .val (.long x4), .second, .val (.long x5), .second, .val (.long r0), .second, .val (.ref a1), .val (.ref a5), .val (.ref a12), .val (.int (1 : Int32)), .val (.int (own_ag (own_pick x3 r0) r0 (own_ag (own_pick x4 x1) x1 (own_ag (own_pick x5 x2) x2 1)))), .val (.ref ra), .val (.int (0 : Int32))] []))
        refine own_go (fun _ => XS.aload X18.here hx rfl (hb hby at_169) rfl rfl) ?_
        show own_Go p e below _ (T18.setTop (mkF m 171 #[.val (.long x0), .second, .val (.long x1), .second, .val (.long x2), .second, .val (.long x3), .second, .val (.long x4), .second, .val (.long x5), .second, .val (.long r0), .second, .val (.ref a1), .val (.ref a5), .val (.ref a12), .val (.int (1 : Int32)), .val (.int (own_ag (own_pick x3 r0) r0 (own_ag (own_pick x4 x1) x1 (own_ag (own_pick x5 x2) x2 1)))), .val (.ref ra), .val (.int (0 : Int32))] [(.ref ra)]))
        refine own_go (own_len X18 hx hZ e18 ra_A (g := (mkF m 171 #[.val (.long x0), .second, .val (.long x1), .second, .val (.long x2), .second, .val (.long x3), .second, .val (.long x4), .second, .val (.long x5), .second, .val (.long r0), .second, .val (.ref a1), .val (.ref a5), .val (.ref a12), .val (.int (1 : Int32)), .val (.int (own_ag (own_pick x3 r0) r0 (own_ag (own_pick x4 x1) x1 (own_ag (own_pick x5 x2) x2 1)))), .val (.ref ra), .val (.int (0 : Int32))] [(.ref ra)])) rfl rfl (hb hby at_171) (3 : Int32) rfl) ?_
        show own_Go p e below _ (T18.setTop (mkF m 172 #[.val (.long x0), .second, .val (.long x1), .second, .val (.long x2), .second, .val (.long x3), .second, .val (.long x4), .second, .val (.long x5), .second, .val (.long r0), .second, .val (.ref a1), .val (.ref a5), .val (.ref a12), .val (.int (1 : Int32)), .val (.int (own_ag (own_pick x3 r0) r0 (own_ag (own_pick x4 x1) x1 (own_ag (own_pick x5 x2) x2 1)))), .val (.ref ra), .val (.int (0 : Int32))] [(.int (3 : Int32))]))
        refine own_go (fun _ => XS.iconst X18.here hx rfl (hb hby at_172)) ?_
        show own_Go p e below _ (T18.setTop (mkF m 173 #[.val (.long x0), .second, .val (.long x1), .second, .val (.long x2), .second, .val (.long x3), .second, .val (.long x4), .second, .val (.long x5), .second, .val (.long r0), .second, .val (.ref a1), .val (.ref a5), .val (.ref a12), .val (.int (1 : Int32)), .val (.int (own_ag (own_pick x3 r0) r0 (own_ag (own_pick x4 x1) x1 (own_ag (own_pick x5 x2) x2 1)))), .val (.ref ra), .val (.int (0 : Int32))] [(.int (3 : Int32)), (.int (3 : Int32))]))
        refine own_go (fun _ => XS.icmpYes X18.here hx rfl (pc0 := 173) (pc' := 178) rfl (hb hby at_173) rfl (XT.ii_eq_t (by decide)) (by decide) (by decide)) ?_
        show own_Go p e below _ (T18.setTop (mkF m 178 #[.val (.long x0), .second, .val (.long x1), .second, .val (.long x2), .second, .val (.long x3), .second, .val (.long x4), .second, .val (.long x5), .second, .val (.long r0), .second, .val (.ref a1), .val (.ref a5), .val (.ref a12), .val (.int (1 : Int32)), .val (.int (own_ag (own_pick x3 r0) r0 (own_ag (own_pick x4 x1) x1 (own_ag (own_pick x5 x2) x2 1)))), .val (.ref ra), .val (.int (0 : Int32))] []))
        refine own_go (fun _ => XS.aload X18.here hx rfl (hb hby at_178) rfl rfl) ?_
        show own_Go p e below _ (T18.setTop (mkF m 180 #[.val (.long x0), .second, .val (.long x1), .second, .val (.long x2), .second, .val (.long x3), .second, .val (.long x4), .second, .val (.long x5), .second, .val (.long r0), .second, .val (.ref a1), .val (.ref a5), .val (.ref a12), .val (.int (1 : Int32)), .val (.int (own_ag (own_pick x3 r0) r0 (own_ag (own_pick x4 x1) x1 (own_ag (own_pick x5 x2) x2 1)))), .val (.ref ra), .val (.int (0 : Int32))] [(.ref ra)]))
        refine own_go (fun _ => XS.iconst X18.here hx rfl (hb hby at_180)) ?_
        show own_Go p e below _ (T18.setTop (mkF m 181 #[.val (.long x0), .second, .val (.long x1), .second, .val (.long x2), .second, .val (.long x3), .second, .val (.long x4), .second, .val (.long x5), .second, .val (.long r0), .second, .val (.ref a1), .val (.ref a5), .val (.ref a12), .val (.int (1 : Int32)), .val (.int (own_ag (own_pick x3 r0) r0 (own_ag (own_pick x4 x1) x1 (own_ag (own_pick x5 x2) x2 1)))), .val (.ref ra), .val (.int (0 : Int32))] [(.int (0 : Int32)), (.ref ra)]))
        refine own_go (own_ldJ X18 hx hZ e18 ra_A (g := (mkF m 181 #[.val (.long x0), .second, .val (.long x1), .second, .val (.long x2), .second, .val (.long x3), .second, .val (.long x4), .second, .val (.long x5), .second, .val (.long r0), .second, .val (.ref a1), .val (.ref a5), .val (.ref a12), .val (.int (1 : Int32)), .val (.int (own_ag (own_pick x3 r0) r0 (own_ag (own_pick x4 x1) x1 (own_ag (own_pick x5 x2) x2 1)))), .val (.ref ra), .val (.int (0 : Int32))] [(.int (0 : Int32)), (.ref ra)])) rfl rfl (hb hby at_181) 0 (by decide) (x := (.long r0)) rfl) ?_
        show own_Go p e below _ (T18.setTop (mkF m 182 #[.val (.long x0), .second, .val (.long x1), .second, .val (.long x2), .second, .val (.long x3), .second, .val (.long x4), .second, .val (.long x5), .second, .val (.long r0), .second, .val (.ref a1), .val (.ref a5), .val (.ref a12), .val (.int (1 : Int32)), .val (.int (own_ag (own_pick x3 r0) r0 (own_ag (own_pick x4 x1) x1 (own_ag (own_pick x5 x2) x2 1)))), .val (.ref ra), .val (.int (0 : Int32))] [(.long r0)]))
        refine own_go (fun _ => XT.lload X18.here hx rfl (hb hby at_182) rfl) ?_
        show own_Go p e below _ (T18.setTop (mkF m 184 #[.val (.long x0), .second, .val (.long x1), .second, .val (.long x2), .second, .val (.long x3), .second, .val (.long x4), .second, .val (.long x5), .second, .val (.long r0), .second, .val (.ref a1), .val (.ref a5), .val (.ref a12), .val (.int (1 : Int32)), .val (.int (own_ag (own_pick x3 r0) r0 (own_ag (own_pick x4 x1) x1 (own_ag (own_pick x5 x2) x2 1)))), .val (.ref ra), .val (.int (0 : Int32))] [(.long r0), (.long r0)]))
        refine own_go (fun _ => XT.lcmp X18.here hx rfl (hb hby at_184) rfl) ?_
        show own_Go p e below _ (T18.setTop (mkF m 185 #[.val (.long x0), .second, .val (.long x1), .second, .val (.long x2), .second, .val (.long x3), .second, .val (.long x4), .second, .val (.long x5), .second, .val (.long r0), .second, .val (.ref a1), .val (.ref a5), .val (.ref a12), .val (.int (1 : Int32)), .val (.int (own_ag (own_pick x3 r0) r0 (own_ag (own_pick x4 x1) x1 (own_ag (own_pick x5 x2) x2 1)))), .val (.ref ra), .val (.int (0 : Int32))] [(.int (XT.cmpL r0 r0))]))
        refine own_go (fun _ => XS.ifNo X18.here hx rfl (hb hby at_185) rfl (XT.ll_ne_f rfl)) ?_
        show own_Go p e below _ (T18.setTop (mkF m 188 #[.val (.long x0), .second, .val (.long x1), .second, .val (.long x2), .second, .val (.long x3), .second, .val (.long x4), .second, .val (.long x5), .second, .val (.long r0), .second, .val (.ref a1), .val (.ref a5), .val (.ref a12), .val (.int (1 : Int32)), .val (.int (own_ag (own_pick x3 r0) r0 (own_ag (own_pick x4 x1) x1 (own_ag (own_pick x5 x2) x2 1)))), .val (.ref ra), .val (.int (0 : Int32))] []))
        refine own_go (fun _ => XS.aload X18.here hx rfl (hb hby at_188) rfl rfl) ?_
        show own_Go p e below _ (T18.setTop (mkF m 190 #[.val (.long x0), .second, .val (.long x1), .second, .val (.long x2), .second, .val (.long x3), .second, .val (.long x4), .second, .val (.long x5), .second, .val (.long r0), .second, .val (.ref a1), .val (.ref a5), .val (.ref a12), .val (.int (1 : Int32)), .val (.int (own_ag (own_pick x3 r0) r0 (own_ag (own_pick x4 x1) x1 (own_ag (own_pick x5 x2) x2 1)))), .val (.ref ra), .val (.int (0 : Int32))] [(.ref ra)]))
        refine own_go (fun _ => XS.iconst X18.here hx rfl (hb hby at_190)) ?_
        show own_Go p e below _ (T18.setTop (mkF m 191 #[.val (.long x0), .second, .val (.long x1), .second, .val (.long x2), .second, .val (.long x3), .second, .val (.long x4), .second, .val (.long x5), .second, .val (.long r0), .second, .val (.ref a1), .val (.ref a5), .val (.ref a12), .val (.int (1 : Int32)), .val (.int (own_ag (own_pick x3 r0) r0 (own_ag (own_pick x4 x1) x1 (own_ag (own_pick x5 x2) x2 1)))), .val (.ref ra), .val (.int (0 : Int32))] [(.int (1 : Int32)), (.ref ra)]))
        refine own_go (own_ldJ X18 hx hZ e18 ra_A (g := (mkF m 191 #[.val (.long x0), .second, .val (.long x1), .second, .val (.long x2), .second, .val (.long x3), .second, .val (.long x4), .second, .val (.long x5), .second, .val (.long r0), .second, .val (.ref a1), .val (.ref a5), .val (.ref a12), .val (.int (1 : Int32)), .val (.int (own_ag (own_pick x3 r0) r0 (own_ag (own_pick x4 x1) x1 (own_ag (own_pick x5 x2) x2 1)))), .val (.ref ra), .val (.int (0 : Int32))] [(.int (1 : Int32)), (.ref ra)])) rfl rfl (hb hby at_191) 1 (by decide) (x := (.long x1)) rfl) ?_
        show own_Go p e below _ (T18.setTop (mkF m 192 #[.val (.long x0), .second, .val (.long x1), .second, .val (.long x2), .second, .val (.long x3), .second, .val (.long x4), .second, .val (.long x5), .second, .val (.long r0), .second, .val (.ref a1), .val (.ref a5), .val (.ref a12), .val (.int (1 : Int32)), .val (.int (own_ag (own_pick x3 r0) r0 (own_ag (own_pick x4 x1) x1 (own_ag (own_pick x5 x2) x2 1)))), .val (.ref ra), .val (.int (0 : Int32))] [(.long x1)]))
        refine own_go (fun _ => XT.lloadN X18.here hx rfl (hb hby at_192) rfl) ?_
        show own_Go p e below _ (T18.setTop (mkF m 193 #[.val (.long x0), .second, .val (.long x1), .second, .val (.long x2), .second, .val (.long x3), .second, .val (.long x4), .second, .val (.long x5), .second, .val (.long r0), .second, .val (.ref a1), .val (.ref a5), .val (.ref a12), .val (.int (1 : Int32)), .val (.int (own_ag (own_pick x3 r0) r0 (own_ag (own_pick x4 x1) x1 (own_ag (own_pick x5 x2) x2 1)))), .val (.ref ra), .val (.int (0 : Int32))] [(.long x1), (.long x1)]))
        refine own_go (fun _ => XT.lcmp X18.here hx rfl (hb hby at_193) rfl) ?_
        show own_Go p e below _ (T18.setTop (mkF m 194 #[.val (.long x0), .second, .val (.long x1), .second, .val (.long x2), .second, .val (.long x3), .second, .val (.long x4), .second, .val (.long x5), .second, .val (.long r0), .second, .val (.ref a1), .val (.ref a5), .val (.ref a12), .val (.int (1 : Int32)), .val (.int (own_ag (own_pick x3 r0) r0 (own_ag (own_pick x4 x1) x1 (own_ag (own_pick x5 x2) x2 1)))), .val (.ref ra), .val (.int (0 : Int32))] [(.int (XT.cmpL x1 x1))]))
        refine own_go (fun _ => XS.ifNo X18.here hx rfl (hb hby at_194) rfl (XT.ll_ne_f rfl)) ?_
        show own_Go p e below _ (T18.setTop (mkF m 197 #[.val (.long x0), .second, .val (.long x1), .second, .val (.long x2), .second, .val (.long x3), .second, .val (.long x4), .second, .val (.long x5), .second, .val (.long r0), .second, .val (.ref a1), .val (.ref a5), .val (.ref a12), .val (.int (1 : Int32)), .val (.int (own_ag (own_pick x3 r0) r0 (own_ag (own_pick x4 x1) x1 (own_ag (own_pick x5 x2) x2 1)))), .val (.ref ra), .val (.int (0 : Int32))] []))
        refine own_go (fun _ => XS.aload X18.here hx rfl (hb hby at_197) rfl rfl) ?_
        show own_Go p e below _ (T18.setTop (mkF m 199 #[.val (.long x0), .second, .val (.long x1), .second, .val (.long x2), .second, .val (.long x3), .second, .val (.long x4), .second, .val (.long x5), .second, .val (.long r0), .second, .val (.ref a1), .val (.ref a5), .val (.ref a12), .val (.int (1 : Int32)), .val (.int (own_ag (own_pick x3 r0) r0 (own_ag (own_pick x4 x1) x1 (own_ag (own_pick x5 x2) x2 1)))), .val (.ref ra), .val (.int (0 : Int32))] [(.ref ra)]))
        refine own_go (fun _ => XS.iconst X18.here hx rfl (hb hby at_199)) ?_
        show own_Go p e below _ (T18.setTop (mkF m 200 #[.val (.long x0), .second, .val (.long x1), .second, .val (.long x2), .second, .val (.long x3), .second, .val (.long x4), .second, .val (.long x5), .second, .val (.long r0), .second, .val (.ref a1), .val (.ref a5), .val (.ref a12), .val (.int (1 : Int32)), .val (.int (own_ag (own_pick x3 r0) r0 (own_ag (own_pick x4 x1) x1 (own_ag (own_pick x5 x2) x2 1)))), .val (.ref ra), .val (.int (0 : Int32))] [(.int (2 : Int32)), (.ref ra)]))
        refine own_go (own_ldJ X18 hx hZ e18 ra_A (g := (mkF m 200 #[.val (.long x0), .second, .val (.long x1), .second, .val (.long x2), .second, .val (.long x3), .second, .val (.long x4), .second, .val (.long x5), .second, .val (.long r0), .second, .val (.ref a1), .val (.ref a5), .val (.ref a12), .val (.int (1 : Int32)), .val (.int (own_ag (own_pick x3 r0) r0 (own_ag (own_pick x4 x1) x1 (own_ag (own_pick x5 x2) x2 1)))), .val (.ref ra), .val (.int (0 : Int32))] [(.int (2 : Int32)), (.ref ra)])) rfl rfl (hb hby at_200) 2 (by decide) (x := (.long x2)) rfl) ?_
        show own_Go p e below _ (T18.setTop (mkF m 201 #[.val (.long x0), .second, .val (.long x1), .second, .val (.long x2), .second, .val (.long x3), .second, .val (.long x4), .second, .val (.long x5), .second, .val (.long r0), .second, .val (.ref a1), .val (.ref a5), .val (.ref a12), .val (.int (1 : Int32)), .val (.int (own_ag (own_pick x3 r0) r0 (own_ag (own_pick x4 x1) x1 (own_ag (own_pick x5 x2) x2 1)))), .val (.ref ra), .val (.int (0 : Int32))] [(.long x2)]))
        refine own_go (fun _ => XT.lload X18.here hx rfl (hb hby at_201) rfl) ?_
        show own_Go p e below _ (T18.setTop (mkF m 203 #[.val (.long x0), .second, .val (.long x1), .second, .val (.long x2), .second, .val (.long x3), .second, .val (.long x4), .second, .val (.long x5), .second, .val (.long r0), .second, .val (.ref a1), .val (.ref a5), .val (.ref a12), .val (.int (1 : Int32)), .val (.int (own_ag (own_pick x3 r0) r0 (own_ag (own_pick x4 x1) x1 (own_ag (own_pick x5 x2) x2 1)))), .val (.ref ra), .val (.int (0 : Int32))] [(.long x2), (.long x2)]))
        refine own_go (fun _ => XT.lcmp X18.here hx rfl (hb hby at_203) rfl) ?_
        show own_Go p e below _ (T18.setTop (mkF m 204 #[.val (.long x0), .second, .val (.long x1), .second, .val (.long x2), .second, .val (.long x3), .second, .val (.long x4), .second, .val (.long x5), .second, .val (.long r0), .second, .val (.ref a1), .val (.ref a5), .val (.ref a12), .val (.int (1 : Int32)), .val (.int (own_ag (own_pick x3 r0) r0 (own_ag (own_pick x4 x1) x1 (own_ag (own_pick x5 x2) x2 1)))), .val (.ref ra), .val (.int (0 : Int32))] [(.int (XT.cmpL x2 x2))]))
        refine own_go (fun _ => XS.ifNo X18.here hx rfl (hb hby at_204) rfl (XT.ll_ne_f rfl)) ?_
        show own_Go p e below _ (T18.setTop (mkF m 207 #[.val (.long x0), .second, .val (.long x1), .second, .val (.long x2), .second, .val (.long x3), .second, .val (.long x4), .second, .val (.long x5), .second, .val (.long r0), .second, .val (.ref a1), .val (.ref a5), .val (.ref a12), .val (.int (1 : Int32)), .val (.int (own_ag (own_pick x3 r0) r0 (own_ag (own_pick x4 x1) x1 (own_ag (own_pick x5 x2) x2 1)))), .val (.ref ra), .val (.int (0 : Int32))] []))
        refine own_go (fun _ => XS.iconst X18.here hx rfl (hb hby at_207)) ?_
        show own_Go p e below _ (T18.setTop (mkF m 208 #[.val (.long x0), .second, .val (.long x1), .second, .val (.long x2), .second, .val (.long x3), .second, .val (.long x4), .second, .val (.long x5), .second, .val (.long r0), .second, .val (.ref a1), .val (.ref a5), .val (.ref a12), .val (.int (1 : Int32)), .val (.int (own_ag (own_pick x3 r0) r0 (own_ag (own_pick x4 x1) x1 (own_ag (own_pick x5 x2) x2 1)))), .val (.ref ra), .val (.int (0 : Int32))] [(.int (1 : Int32))]))
        refine own_go (fun _ => XS.goto X18.here hx rfl (pc0 := 208) (pc' := 212) rfl (hb hby at_208) (by decide) (by decide)) ?_
        show own_Go p e below _ (T18.setTop (mkF m 212 #[.val (.long x0), .second, .val (.long x1), .second, .val (.long x2), .second, .val (.long x3), .second, .val (.long x4), .second, .val (.long x5), .second, .val (.long r0), .second, .val (.ref a1), .val (.ref a5), .val (.ref a12), .val (.int (1 : Int32)), .val (.int (own_ag (own_pick x3 r0) r0 (own_ag (own_pick x4 x1) x1 (own_ag (own_pick x5 x2) x2 1)))), .val (.ref ra), .val (.int (0 : Int32))] [(.int (1 : Int32))]))
        exact own_iret X18 hx hlk hret (Or.inr (Or.inl rfl)) rfl (hb hby at_212) (by decide) (by decide) ⟨rfl, N16⟩
      · skip
        refine own_go (fun _ => XS.ifNo X18.here hx rfl (hb hby at_130) rfl (XT.i0_eq_f ho1)) ?_
        show own_Go p e below _ (T18.setTop (mkF m 133 #[.val (.long x0), .second, .val (.long x1), .second, .val (.long x2), .second, .val (.long x3), .second, .val (.long x4), .second, .val (.long x5), .second, .val (.long r0), .second, .val (.ref a1), .val (.ref a5), .val (.ref a12), .val (.int (1 : Int32)), .val (.int (own_ag (own_pick x3 r0) r0 (own_ag (own_pick x4 x1) x1 (own_ag (own_pick x5 x2) x2 1)))), .val (.ref ra), .unset] []))
        refine own_go (fun _ => XS.aload X18.here hx rfl (hb hby at_133) rfl rfl) ?_
        show own_Go p e below _ (T18.setTop (mkF m 135 #[.val (.long x0), .second, .val (.long x1), .second, .val (.long x2), .second, .val (.long x3), .second, .val (.long x4), .second, .val (.long x5), .second, .val (.long r0), .second, .val (.ref a1), .val (.ref a5), .val (.ref a12), .val (.int (1 : Int32)), .val (.int (own_ag (own_pick x3 r0) r0 (own_ag (own_pick x4 x1) x1 (own_ag (own_pick x5 x2) x2 1)))), .val (.ref ra), .unset] [(.ref a5)]))
        refine own_go (fun _ => XS.iconst X18.here hx rfl (hb hby at_135)) ?_
        show own_Go p e below _ (T18.setTop (mkF m 136 #[.val (.long x0), .second, .val (.long x1), .second, .val (.long x2), .second, .val (.long x3), .second, .val (.long x4), .second, .val (.long x5), .second, .val (.long r0), .second, .val (.ref a1), .val (.ref a5), .val (.ref a12), .val (.int (1 : Int32)), .val (.int (own_ag (own_pick x3 r0) r0 (own_ag (own_pick x4 x1) x1 (own_ag (own_pick x5 x2) x2 1)))), .val (.ref ra), .unset] [(.int (2 : Int32)), (.ref a5)]))
        refine own_go (own_ldJ X18 hx hZ e18 d_A_16 (g := (mkF m 136 #[.val (.long x0), .second, .val (.long x1), .second, .val (.long x2), .second, .val (.long x3), .second, .val (.long x4), .second, .val (.long x5), .second, .val (.long r0), .second, .val (.ref a1), .val (.ref a5), .val (.ref a12), .val (.int (1 : Int32)), .val (.int (own_ag (own_pick x3 r0) r0 (own_ag (own_pick x4 x1) x1 (own_ag (own_pick x5 x2) x2 1)))), .val (.ref ra), .unset] [(.int (2 : Int32)), (.ref a5)])) rfl rfl (hb hby at_136) 2 (by decide) (x := (.long (own_pick x5 x2))) rfl) ?_
        show own_Go p e below _ (T18.setTop (mkF m 137 #[.val (.long x0), .second, .val (.long x1), .second, .val (.long x2), .second, .val (.long x3), .second, .val (.long x4), .second, .val (.long x5), .second, .val (.long r0), .second, .val (.ref a1), .val (.ref a5), .val (.ref a12), .val (.int (1 : Int32)), .val (.int (own_ag (own_pick x3 r0) r0 (own_ag (own_pick x4 x1) x1 (own_ag (own_pick x5 x2) x2 1)))), .val (.ref ra), .unset] [(.long (own_pick x5 x2))]))
        refine own_go (fun _ => XT.lload X18.here hx rfl (hb hby at_137) rfl) ?_
        show own_Go p e below _ (T18.setTop (mkF m 139 #[.val (.long x0), .second, .val (.long x1), .second, .val (.long x2), .second, .val (.long x3), .second, .val (.long x4), .second, .val (.long x5), .second, .val (.long r0), .second, .val (.ref a1), .val (.ref a5), .val (.ref a12), .val (.int (1 : Int32)), .val (.int (own_ag (own_pick x3 r0) r0 (own_ag (own_pick x4 x1) x1 (own_ag (own_pick x5 x2) x2 1)))), .val (.ref ra), .unset] [(.long x2), (.long (own_pick x5 x2))]))
        obtain ⟨T19, X19, e19, st19⟩ := own_callSP X18 hx hZ hown (argsL := [(.long (own_pick x5 x2)), (.long x2)]) (rest := []) (own_ok_con l Z a0 hw (own_pick x5 x2) x2 T16.heap []) e18 (hw _ (List.mem_of_getElem? (i := 85) rfl)) (hw _ (List.mem_of_getElem? (i := 86) rfl)) (hw _ (List.mem_of_getElem? (i := 4) rfl)) (hw _ (List.mem_of_getElem? (i := 87) rfl)) (by decide) (by decide +kernel : parseMethodDescriptor "(JJ)Z" = some ⟨[.long, .long], some .boolean⟩) rfl (g := (mkF m 139 #[.val (.long x0), .second, .val (.long x1), .second, .val (.long x2), .second, .val (.long x3), .second, .val (.long x4), .second, .val (.long x5), .second, .val (.long r0), .second, .val (.ref a1), .val (.ref a5), .val (.ref a12), .val (.int (1 : Int32)), .val (.int (own_ag (own_pick x3 r0) r0 (own_ag (own_pick x4 x1) x1 (own_ag (own_pick x5 x2) x2 1)))), .val (.ref ra), .unset] [(.long x2), (.long (own_pick x5 x2))])) rfl (by rw [hml]; rfl) rfl 0 (by show 2 * 0 + _ ≤ _; exact Nat.le_of_eq rfl) (hb hby at_139) (by decide) (by decide) rfl rfl (by decide) (by decide)
        refine own_go st19 ?_
        show own_Go p e below _ (T19.setTop (mkF m 142 #[.val (.long x0), .second, .val (.long x1), .second, .val (.long x2), .second, .val (.long x3), .second, .val (.long x4), .second, .val (.long x5), .second, .val (.long r0), .second, .val (.ref a1), .val (.ref a5), .val (.ref a12), .val (.int (1 : Int32)), .val (.int (own_ag (own_pick x3 r0) r0 (own_ag (own_pick x4 x1) x1 (own_ag (own_pick x5 x2) x2 1)))), .val (.ref ra), .unset] [(.int (own_ok (own_pick x5 x2) x2))]))
        by_cases ho2 : own_ok (own_pick x5 x2) x2 = (0 : Int32)
        · skip
          refine own_go (fun _ => XS.ifYes X19.here hx rfl (pc0 := 142) (pc' := 149) rfl (hb hby at_142) rfl (XT.i0_eq_t ho2) (by decide) (by decide)) ?_
          show own_Go p e below _ (T19.setTop (mkF m 149 #[.val (.long x0), .second, .val (.long x1), .second, .val (.long x2), .second, .val (.long x3), .second, .val (.long x4), .second, .val (.long x5), .second, .val (.long r0), .second, .val (.ref a1), .val (.ref a5), .val (.ref a12), .val (.int (1 : Int32)), .val (.int (own_ag (own_pick x3 r0) r0 (own_ag (own_pick x4 x1) x1 (own_ag (own_pick x5 x2) x2 1)))), .val (.ref ra), .unset] []))
          refine own_go (fun _ => XS.iconst X19.here hx rfl (hb hby at_149)) ?_
          show own_Go p e below _ (T19.setTop (mkF m 150 #[.val (.long x0), .second, .val (.long x1), .second, .val (.long x2), .second, .val (.long x3), .second, .val (.long x4), .second, .val (.long x5), .second, .val (.long r0), .second, .val (.ref a1), .val (.ref a5), .val (.ref a12), .val (.int (1 : Int32)), .val (.int (own_ag (own_pick x3 r0) r0 (own_ag (own_pick x4 x1) x1 (own_ag (own_pick x5 x2) x2 1)))), .val (.ref ra), .unset] [(.int (0 : Int32))]))
          refine own_go (fun _ => XS.istore X19.here hx rfl (hb hby at_150) rfl (l' := #[.val (.long x0), .second, .val (.long x1), .second, .val (.long x2), .second, .val (.long x3), .second, .val (.long x4), .second, .val (.long x5), .second, .val (.long r0), .second, .val (.ref a1), .val (.ref a5), .val (.ref a12), .val (.int (1 : Int32)), .val (.int (own_ag (own_pick x3 r0) r0 (own_ag (own_pick x4 x1) x1 (own_ag (own_pick x5 x2) x2 1)))), .val (.ref ra), .val (.int (0 : Int32))]) rfl) ?_
          show own_Go p e below _ (T19.setTop (mkF m 152 #[.val (.long x0), .second, .val (.long x1), .second, .val (.long x2), .second, .val (.long x3), .second, .val (.long x4), .second, .val (.long x5), .second, .val (.long r0), .second, .val (.ref a1), .val (.ref a5), .val (.ref a12), .val (.int (1 : Int32)), .val (.int (own_ag (own_pick x3 r0) r0 (own_ag (own_pick x4 x1) x1 (own_ag (own_pick x5 x2) x2 1)))), .val (.ref ra), .val (.int (0 : Int32))] []))
          refine own_go (fun _ => XS.iload X19.here hx rfl (hb hby at_152) rfl) ?_
          show own_Go p e below _ (T19.setTop (mkF m 154 #[.val (.long x0), .second, .val (.long x1), .second, .val (.long x2), .second, .val (.long x3), .second, .val (.long x4), .second, .val (.long x5), .second, .val (.long r0), .second, .val (.ref a1), .val (.ref a5), .val (.ref a12), .val (.int (1 : Int32)), .val (.int (own_ag (own_pick x3 r0) r0 (own_ag (own_pick x4 x1) x1 (own_ag (own_pick x5 x2) x2 1)))), .val (.ref ra), .val (.int (0 : Int32))] [(.int (1 : Int32))]))
          refine own_go (fun _ => XS.ifNo X19.here hx rfl (hb hby at_154) rfl (XT.i0_eq_f (by decide))) ?_
          show own_Go p e below _ (T19.setTop (mkF m 157 #[.val (.long x0), .second, .val (.long x1), .second, .val (.long x2), .second, .val (.long x3), .second, .val (.long x4), .second, .val (.long x5), .second, .val (.long r0), .second, .val (.ref a1), .val (.ref a5), .val (.ref a12), .val (.int (1 : Int32)), .val (.int (own_ag (own_pick x3 r0) r0 (own_ag (own_pick x4 x1) x1 (own_ag (own_pick x5 x2) x2 1)))), .val (.ref ra), .val (.int (0 : Int32))] []))
          refine own_go (fun _ => XS.iload X19.here hx rfl (hb hby at_157) rfl) ?_
          show own_Go p e below _ (T19.setTop (mkF m 159 #[.val (.long x0), .second, .val (.long x1), .second, .val (.long x2), .second, .val (.long x3), .second, .val (.long x4), .second, .val (.long x5), .second, .val (.long r0), .second, .val (.ref a1), .val (.ref a5), .val (.ref a12), .val (.int (1 : Int32)), .val (.int (own_ag (own_pick x3 r0) r0 (own_ag (own_pick x4 x1) x1 (own_ag (own_pick x5 x2) x2 1)))), .val (.ref ra), .val (.int (0 : Int32))] [(.int (own_ag (own_pick x3 r0) r0 (own_ag (own_pick x4 x1) x1 (own_ag (own_pick x5 x2) x2 1))))]))
          refine own_go (fun _ => XS.iload X19.here hx rfl (hb hby at_159) rfl) ?_
          show own_Go p e below _ (T19.setTop (mkF m 161 #[.val (.long x0), .second, .val (.long x1), .second, .val (.long x2), .second, .val (.long x3), .second, .val (.long x4), .second, .val (.long x5), .second, .val (.long r0), .second, .val (.ref a1), .val (.ref a5), .val (.ref a12), .val (.int (1 : Int32)), .val (.int (own_ag (own_pick x3 r0) r0 (own_ag (own_pick x4 x1) x1 (own_ag (own_pick x5 x2) x2 1)))), .val (.ref ra), .val (.int (0 : Int32))] [(.int (0 : Int32)), (.int (own_ag (own_pick x3 r0) r0 (own_ag (own_pick x4 x1) x1 (own_ag (own_pick x5 x2) x2 1))))]))
          have hag : (own_ag (own_pick x3 r0) r0 (own_ag (own_pick x4 x1) x1 (own_ag (own_pick x5 x2) x2 1))) = (0 : Int32) := by rw [own_ag_ok, own_ag_ok, own_ag_ok]; simp [ho0, ho1, ho2]
          refine own_go (fun _ => XS.icmpNo X19.here hx rfl (hb hby at_161) rfl (XT.ii_ne_f hag)) ?_
          show own_Go p e below _ (T19.setTop (mkF m 164 #[.val (.long x0), .second, .val (.long x1), .second, .val (.long x2), .second, .val (.long x3), .second, .val (.long x4), .second, .val (.long x5), .second, .val (.long r0), .second, .val (.ref a1), .val (.ref a5), .val (.ref a12), .val (.int (1 : Int32)), .val (.int (own_ag (own_pick x3 r0) r0 (own_ag (own_pick x4 x1) x1 (own_ag (own_pick x5 x2) x2 1)))), .val (.ref ra), .val (.int (0 : Int32))] []))
          refine own_go (fun _ => XS.aload X19.here hx rfl (hb hby at_164) rfl rfl) ?_
          show own_Go p e below _ (T19.setTop (mkF m 166 #[.val (.long x0), .second, .val (.long x1), .second, .val (.long x2), .second, .val (.long x3), .second, .val (.long x4), .second, .val (.long x5), .second, .val (.long r0), .second, .val (.ref a1), .val (.ref a5), .val (.ref a12), .val (.int (1 : Int32)), .val (.int (own_ag (own_pick x3 r0) r0 (own_ag (own_pick x4 x1) x1 (own_ag (own_pick x5 x2) x2 1)))), .val (.ref ra), .val (.int (0 : Int32))] [(.ref ra)]))
          refine own_go (fun _ => XS.ifnullNo X19.here hx rfl (hb hby at_166) rfl) ?_
          show own_Go p e below _ (T19.setTop (mkF m 169 #[.val (.long x0), .second, .val (.long x1), .second, .val (.long x2), .second, .val (.long x3), .second, .val (.long x4), .second, .val (.long x5), .second, .val (.long r0), .second, .val (.ref a1), .val (.ref a5), .val (.ref a12), .val (.int (1 : Int32)), .val (.int (own_ag (own_pick x3 r0) r0 (own_ag (own_pick x4 x1) x1 (own_ag (own_pick x5 x2) x2 1)))), .val (.ref ra), .val (.int (0 : Int32))] []))
          refine own_go (fun _ => XS.aload X19.here hx rfl (hb hby at_169) rfl rfl) ?_
          show own_Go p e below _ (T19.setTop (mkF m 171 #[.val (.long x0), .second, .val (.long x1), .second, .val (.long x2), .second, .val (.long x3), .second, .val (.long x4), .second, .val (.long x5), .second, .val (.long r0), .second, .val (.ref a1), .val (.ref a5), .val (.ref a12), .val (.int (1 : Int32)), .val (.int (own_ag (own_pick x3 r0) r0 (own_ag (own_pick x4 x1) x1 (own_ag (own_pick x5 x2) x2 1)))), .val (.ref ra), .val (.int (0 : Int32))] [(.ref ra)]))
          refine own_go (own_len X19 hx hZ e19 ra_A (g := (mkF m 171 #[.val (.long x0), .second, .val (.long x1), .second, .val (.long x2), .second, .val (.long x3), .second, .val (.long x4), .second, .val (.long x5), .second, .val (.long r0), .second, .val (.ref a1), .val (.ref a5), .val (.ref a12), .val (.int (1 : Int32)), .val (.int (own_ag (own_pick x3 r0) r0 (own_ag (own_pick x4 x1) x1 (own_ag (own_pick x5 x2) x2 1)))), .val (.ref ra), .val (.int (0 : Int32))] [(.ref ra)])) rfl rfl (hb hby at_171) (3 : Int32) rfl) ?_
          show own_Go p e below _ (T19.setTop (mkF m 172 #[.val (.long x0), .second, .val (.long x1), .second, .val (.long x2), .second, .val (.long x3), .second, .val (.long x4), .second, .val (.long x5), .second, .val (.long r0), .second, .val (.ref a1), .val (.ref a5), .val (.ref a12), .val (.int (1 : Int32)), .val (.int (own_ag (own_pick x3 r0) r0 (own_ag (own_pick x4 x1) x1 (own_ag (own_pick x5 x2) x2 1)))), .val (.ref ra), .val (.int (0 : Int32))] [(.int (3 : Int32))]))
          refine own_go (fun _ => XS.iconst X19.here hx rfl (hb hby at_172)) ?_
          show own_Go p e below _ (T19.setTop (mkF m 173 #[.val (.long x0), .second, .val (.long x1), .second, .val (.long x2), .second, .val (.long x3), .second, .val (.long x4), .second, .val (.long x5), .second, .val (.long r0), .second, .val (.ref a1), .val (.ref a5), .val (.ref a12), .val (.int (1 : Int32)), .val (.int (own_ag (own_pick x3 r0) r0 (own_ag (own_pick x4 x1) x1 (own_ag (own_pick x5 x2) x2 1)))), .val (.ref ra), .val (.int (0 : Int32))] [(.int (3 : Int32)), (.int (3 : Int32))]))
          refine own_go (fun _ => XS.icmpYes X19.here hx rfl (pc0 := 173) (pc' := 178) rfl (hb hby at_173) rfl (XT.ii_eq_t (by decide)) (by decide) (by decide)) ?_
          show own_Go p e below _ (T19.setTop (mkF m 178 #[.val (.long x0), .second, .val (.long x1), .second, .val (.long x2), .second, .val (.long x3), .second, .val (.long x4), .second, .val (.long x5), .second, .val (.long r0), .second, .val (.ref a1), .val (.ref a5), .val (.ref a12), .val (.int (1 : Int32)), .val (.int (own_ag (own_pick x3 r0) r0 (own_ag (own_pick x4 x1) x1 (own_ag (own_pick x5 x2) x2 1)))), .val (.ref ra), .val (.int (0 : Int32))] []))
          refine own_go (fun _ => XS.aload X19.here hx rfl (hb hby at_178) rfl rfl) ?_
          show own_Go p e below _ (T19.setTop (mkF m 180 #[.val (.long x0), .second, .val (.long x1), .second, .val (.long x2), .second, .val (.long x3), .second, .val (.long x4), .second, .val (.long x5), .second, .val (.long r0), .second, .val (.ref a1), .val (.ref a5), .val (.ref a12), .val (.int (1 : Int32)), .val (.int (own_ag (own_pick x3 r0) r0 (own_ag (own_pick x4 x1) x1 (own_ag (own_pick x5 x2) x2 1)))), .val (.ref ra), .val (.int (0 : Int32))] [(.ref ra)]))
          refine own_go (fun _ => XS.iconst X19.here hx rfl (hb hby at_180)) ?_
          show own_Go p e below _ (T19.setTop (mkF m 181 #[.val (.long x0), .second, .val (.long x1), .second, .val (.long x2), .second, .val (.long x3), .second, .val (.long x4), .second, .val (.long x5), .second, .val (.long r0), .second, .val (.ref a1), .val (.ref a5), .val (.ref a12), .val (.int (1 : Int32)), .val (.int (own_ag (own_pick x3 r0) r0 (own_ag (own_pick x4 x1) x1 (own_ag (own_pick x5 x2) x2 1)))), .val (.ref ra), .val (.int (0 : Int32))] [(.int (0 : Int32)), (.ref ra)]))
          refine own_go (own_ldJ X19 hx hZ e19 ra_A (g := (mkF m 181 #[.val (.long x0), .second, .val (.long x1), .second, .val (.long x2), .second, .val (.long x3), .second, .val (.long x4), .second, .val (.long x5), .second, .val (.long r0), .second, .val (.ref a1), .val (.ref a5), .val (.ref a12), .val (.int (1 : Int32)), .val (.int (own_ag (own_pick x3 r0) r0 (own_ag (own_pick x4 x1) x1 (own_ag (own_pick x5 x2) x2 1)))), .val (.ref ra), .val (.int (0 : Int32))] [(.int (0 : Int32)), (.ref ra)])) rfl rfl (hb hby at_181) 0 (by decide) (x := (.long r0)) rfl) ?_
          show own_Go p e below _ (T19.setTop (mkF m 182 #[.val (.long x0), .second, .val (.long x1), .second, .val (.long x2), .second, .val (.long x3), .second, .val (.long x4), .second, .val (.long x5), .second, .val (.long r0), .second, .val (.ref a1), .val (.ref a5), .val (.ref a12), .val (.int (1 : Int32)), .val (.int (own_ag (own_pick x3 r0) r0 (own_ag (own_pick x4 x1) x1 (own_ag (own_pick x5 x2) x2 1)))), .val (.ref ra), .val (.int (0 : Int32))] [(.long r0)]))
          refine own_go (fun _ => XT.lload X19.here hx rfl (hb hby at_182) rfl) ?_
          show own_Go p e below _ (T19.setTop (mkF m 184 #[.val (.long x0), .second, .val (.long x1), .second, .val (.long x2), .second, .val (.long x3), .second, .val (.long x4), .second, .val (.long x5), .second, .val (.long r0), .second, .val (.ref a1), .val (.ref a5), .val (.ref a12), .val (.int (1 : Int32)), .val (.int (own_ag (own_pick x3 r0) r0 (own_ag (own_pick x4 x1) x1 (own_ag (own_pick x5 x2) x2 1)))), .val (.ref ra), .val (.int (0 : Int32))] [(.long r0), (.long r0)]))
          refine own_go (fun _ => XT.lcmp X19.here hx rfl (hb hby at_184) rfl) ?_
          show own_Go p e below _ (T19.setTop (mkF m 185 #[.val (.long x0), .second, .val (.long x1), .second, .val (.long x2), .second, .val (.long x3), .second, .val (.long x4), .second, .val (.long x5), .second, .val (.long r0), .second, .val (.ref a1), .val (.ref a5), .val (.ref a12), .val (.int (1 : Int32)), .val (.int (own_ag (own_pick x3 r0) r0 (own_ag (own_pick x4 x1) x1 (own_ag (own_pick x5 x2) x2 1)))), .val (.ref ra), .val (.int (0 : Int32))] [(.int (XT.cmpL r0 r0))]))
          refine own_go (fun _ => XS.ifNo X19.here hx rfl (hb hby at_185) rfl (XT.ll_ne_f rfl)) ?_
          show own_Go p e below _ (T19.setTop (mkF m 188 #[.val (.long x0), .second, .val (.long x1), .second, .val (.long x2), .second, .val (.long x3), .second, .val (.long x4), .second, .val (.long x5), .second, .val (.long r0), .second, .val (.ref a1), .val (.ref a5), .val (.ref a12), .val (.int (1 : Int32)), .val (.int (own_ag (own_pick x3 r0) r0 (own_ag (own_pick x4 x1) x1 (own_ag (own_pick x5 x2) x2 1)))), .val (.ref ra), .val (.int (0 : Int32))] []))
          refine own_go (fun _ => XS.aload X19.here hx rfl (hb hby at_188) rfl rfl) ?_
          show own_Go p e below _ (T19.setTop (mkF m 190 #[.val (.long x0), .second, .val (.long x1), .second, .val (.long x2), .second, .val (.long x3), .second, .val (.long x4), .second, .val (.long x5), .second, .val (.long r0), .second, .val (.ref a1), .val (.ref a5), .val (.ref a12), .val (.int (1 : Int32)), .val (.int (own_ag (own_pick x3 r0) r0 (own_ag (own_pick x4 x1) x1 (own_ag (own_pick x5 x2) x2 1)))), .val (.ref ra), .val (.int (0 : Int32))] [(.ref ra)]))
          refine own_go (fun _ => XS.iconst X19.here hx rfl (hb hby at_190)) ?_
          show own_Go p e below _ (T19.setTop (mkF m 191 #[.val (.long x0), .second, .val (.long x1), .second, .val (.long x2), .second, .val (.long x3), .second, .val (.long x4), .second, .val (.long x5), .second, .val (.long r0), .second, .val (.ref a1), .val (.ref a5), .val (.ref a12), .val (.int (1 : Int32)), .val (.int (own_ag (own_pick x3 r0) r0 (own_ag (own_pick x4 x1) x1 (own_ag (own_pick x5 x2) x2 1)))), .val (.ref ra), .val (.int (0 : Int32))] [(.int (1 : Int32)), (.ref ra)]))
          refine own_go (own_ldJ X19 hx hZ e19 ra_A (g := (mkF m 191 #[.val (.long x0), .second, .val (.long x1), .second, .val (.long x2), .second, .val (.long x3), .second, .val (.long x4), .second, .val (.long x5), .second, .val (.long r0), .second, .val (.ref a1), .val (.ref a5), .val (.ref a12), .val (.int (1 : Int32)), .val (.int (own_ag (own_pick x3 r0) r0 (own_ag (own_pick x4 x1) x1 (own_ag (own_pick x5 x2) x2 1)))), .val (.ref ra), .val (.int (0 : Int32))] [(.int (1 : Int32)), (.ref ra)])) rfl rfl (hb hby at_191) 1 (by decide) (x := (.long x1)) rfl) ?_
          show own_Go p e below _ (T19.setTop (mkF m 192 #[.val (.long x0), .second, .val (.long x1), .second, .val (.long x2), .second, .val (.long x3), .second, .val (.long x4), .second, .val (.long x5), .second, .val (.long r0), .second, .val (.ref a1), .val (.ref a5), .val (.ref a12), .val (.int (1 : Int32)), .val (.int (own_ag (own_pick x3 r0) r0 (own_ag (own_pick x4 x1) x1 (own_ag (own_pick x5 x2) x2 1)))), .val (.ref ra), .val (.int (0 : Int32))] [(.long x1)]))
          refine own_go (fun _ => XT.lloadN X19.here hx rfl (hb hby at_192) rfl) ?_
          show own_Go p e below _ (T19.setTop (mkF m 193 #[.val (.long x0), .second, .val (.long x1), .second, .val (.long x2), .second, .val (.long x3), .second, .val (.long x4), .second, .val (.long x5), .second, .val (.long r0), .second, .val (.ref a1), .val (.ref a5), .val (.ref a12), .val (.int (1 : Int32)), .val (.int (own_ag (own_pick x3 r0) r0 (own_ag (own_pick x4 x1) x1 (own_ag (own_pick x5 x2) x2 1)))), .val (.ref ra), .val (.int (0 : Int32))] [(.long x1), (.long x1)]))
          refine own_go (fun _ => XT.lcmp X19.here hx rfl (hb hby at_193) rfl) ?_
          show own_Go p e below _ (T19.setTop (mkF m 194 #[.val (.long x0), .second, .val (.long x1), .second, .val (.long x2), .second, .val (.long x3), .second, .val (.long x4), .second, .val (.long x5), .second, .val (.long r0), .second, .val (.ref a1), .val (.ref a5), .val (.ref a12), .val (.int (1 : Int32)), .val (.int (own_ag (own_pick x3 r0) r0 (own_ag (own_pick x4 x1) x1 (own_ag (own_pick x5 x2) x2 1)))), .val (.ref ra), .val (.int (0 : Int32))] [(.int (XT.cmpL x1 x1))]))
          refine own_go (fun _ => XS.ifNo X19.here hx rfl (hb hby at_194) rfl (XT.ll_ne_f rfl)) ?_
          show own_Go p e below _ (T19.setTop (mkF m 197 #[.val (.long x0), .second, .val (.long x1), .second, .val (.long x2), .second, .val (.long x3), .second, .val (.long x4), .second, .val (.long x5), .second, .val (.long r0), .second, .val (.ref a1), .val (.ref a5), .val (.ref a12), .val (.int (1 : Int32)), .val (.int (own_ag (own_pick x3 r0) r0 (own_ag (own_pick x4 x1) x1 (own_ag (own_pick x5 x2) x2 1)))), .val (.ref ra), .val (.int (0 : Int32))] []))
          refine own_go (fun _ => XS.aload X19.here hx rfl (hb hby at_197) rfl rfl) ?_
          show own_Go p e below _ (T19.setTop (mkF m 199 #[.val (.long x0), .second, .val (.long x1), .second, .val (.long x2), .second, .val (.long x3), .second, .val (.long x4), .second, .val (.long x5), .second, .val (.long r0), .second, .val (.ref a1), .val (.ref a5), .val (.ref a12), .val (.int (1 : Int32)), .val (.int (own_ag (own_pick x3 r0) r0 (own_ag (own_pick x4 x1) x1 (own_ag (own_pick x5 x2) x2 1)))), .val (.ref ra), .val (.int (0 : Int32))] [(.ref ra)]))
          refine own_go (fun _ => XS.iconst X19.here hx rfl (hb hby at_199)) ?_
          show own_Go p e below _ (T19.setTop (mkF m 200 #[.val (.long x0), .second, .val (.long x1), .second, .val (.long x2), .second, .val (.long x3), .second, .val (.long x4), .second, .val (.long x5), .second, .val (.long r0), .second, .val (.ref a1), .val (.ref a5), .val (.ref a12), .val (.int (1 : Int32)), .val (.int (own_ag (own_pick x3 r0) r0 (own_ag (own_pick x4 x1) x1 (own_ag (own_pick x5 x2) x2 1)))), .val (.ref ra), .val (.int (0 : Int32))] [(.int (2 : Int32)), (.ref ra)]))
          refine own_go (own_ldJ X19 hx hZ e19 ra_A (g := (mkF m 200 #[.val (.long x0), .second, .val (.long x1), .second, .val (.long x2), .second, .val (.long x3), .second, .val (.long x4), .second, .val (.long x5), .second, .val (.long r0), .second, .val (.ref a1), .val (.ref a5), .val (.ref a12), .val (.int (1 : Int32)), .val (.int (own_ag (own_pick x3 r0) r0 (own_ag (own_pick x4 x1) x1 (own_ag (own_pick x5 x2) x2 1)))), .val (.ref ra), .val (.int (0 : Int32))] [(.int (2 : Int32)), (.ref ra)])) rfl rfl (hb hby at_200) 2 (by decide) (x := (.long x2)) rfl) ?_
          show own_Go p e below _ (T19.setTop (mkF m 201 #[.val (.long x0), .second, .val (.long x1), .second, .val (.long x2), .second, .val (.long x3), .second, .val (.long x4), .second, .val (.long x5), .second, .val (.long r0), .second, .val (.ref a1), .val (.ref a5), .val (.ref a12), .val (.int (1 : Int32)), .val (.int (own_ag (own_pick x3 r0) r0 (own_ag (own_pick x4 x1) x1 (own_ag (own_pick x5 x2) x2 1)))), .val (.ref ra), .val (.int (0 : Int32))] [(.long x2)]))
          refine own_go (fun _ => XT.lload X19.here hx rfl (hb hby at_201) rfl) ?_
          show own_Go p e below _ (T19.setTop (mkF m 203 #[.val (.long x0), .second, .val (.long x1), .second, .val (.long x2), .second, .val (.long x3), .second, .val (.long x4), .second, .val (.long x5), .second, .val (.long r0), .second, .val (.ref a1), .val (.ref a5), .val (.ref a12), .val (.int (1 : Int32)), .val (.int (own_ag (own_pick x3 r0) r0 (own_ag (own_pick x4 x1) x1 (own_ag (own_pick x5 x2) x2 1)))), .val (.ref ra), .val (.int (0 : Int32))] [(.long x2), (.long x2)]))
          refine own_go (fun _ => XT.lcmp X19.here hx rfl (hb hby at_203) rfl) ?_
          show own_Go p e below _ (T19.setTop (mkF m 204 #[.val (.long x0), .second, .val (.long x1), .second, .val (.long x2), .second, .val (.long x3), .second, .val (.long x4), .second, .val (.long x5), .second, .val (.long r0), .second, .val (.ref a1), .val (.ref a5), .val (.ref a12), .val (.int (1 : Int32)), .val (.int (own_ag (own_pick x3 r0) r0 (own_ag (own_pick x4 x1) x1 (own_ag (own_pick x5 x2) x2 1)))), .val (.ref ra), .val (.int (0 : Int32))] [(.int (XT.cmpL x2 x2))]))
          refine own_go (fun _ => XS.ifNo X19.here hx rfl (hb hby at_204) rfl (XT.ll_ne_f rfl)) ?_
          show own_Go p e below _ (T19.setTop (mkF m 207 #[.val (.long x0), .second, .val (.long x1), .second, .val (.long x2), .second, .val (.long x3), .second, .val (.long x4), .second, .val (.long x5), .second, .val (.long r0), .second, .val (.ref a1), .val (.ref a5), .val (.ref a12), .val (.int (1 : Int32)), .val (.int (own_ag (own_pick x3 r0) r0 (own_ag (own_pick x4 x1) x1 (own_ag (own_pick x5 x2) x2 1)))), .val (.ref ra), .val (.int (0 : Int32))] []))
          refine own_go (fun _ => XS.iconst X19.here hx rfl (hb hby at_207)) ?_
          show own_Go p e below _ (T19.setTop (mkF m 208 #[.val (.long x0), .second, .val (.long x1), .second, .val (.long x2), .second, .val (.long x3), .second, .val (.long x4), .second, .val (.long x5), .second, .val (.long r0), .second, .val (.ref a1), .val (.ref a5), .val (.ref a12), .val (.int (1 : Int32)), .val (.int (own_ag (own_pick x3 r0) r0 (own_ag (own_pick x4 x1) x1 (own_ag (own_pick x5 x2) x2 1)))), .val (.ref ra), .val (.int (0 : Int32))] [(.int (1 : Int32))]))
          refine own_go (fun _ => XS.goto X19.here hx rfl (pc0 := 208) (pc' := 212) rfl (hb hby at_208) (by decide) (by decide)) ?_
          show own_Go p e below _ (T19.setTop (mkF m 212 #[.val (.long x0), .second, .val (.long x1), .second, .val (.long x2), .second, .val (.long x3), .second, .val (.long x4), .second, .val (.long x5), .second, .val (.long r0), .second, .val (.ref a1), .val (.ref a5), .val (.ref a12), .val (.int (1 : Int32)), .val (.int (own_ag (own_pick x3 r0) r0 (own_ag (own_pick x4 x1) x1 (own_ag (own_pick x5 x2) x2 1)))), .val (.ref ra), .val (.int (0 : Int32))] [(.int (1 : Int32))]))
          exact own_iret X19 hx hlk hret (Or.inr (Or.inl rfl)) rfl (hb hby at_212) (by decide) (by decide) ⟨rfl, N16⟩
        · skip
          refine own_go (fun _ => XS.ifNo X19.here hx rfl (hb hby at_142) rfl (XT.i0_eq_f ho2)) ?_
          show own_Go p e below _ (T19.setTop (mkF m 145 #[.val (.long x0), .second, .val (.long x1), .second, .val (.long x2), .second, .val (.long x3), .second, .val (.long x4), .second, .val (.long x5), .second, .val (.long r0), .second, .val (.ref a1), .val (.ref a5), .val (.ref a12), .val (.int (1 : Int32)), .val (.int (own_ag (own_pick x3 r0) r0 (own_ag (own_pick x4 x1) x1 (own_ag (own_pick x5 x2) x2 1)))), .val (.ref ra), .unset] []))
          refine own_go (fun _ => XS.iconst X19.here hx rfl (hb hby at_145)) ?_
          show own_Go p e below _ (T19.setTop (mkF m 146 #[.val (.long x0), .second, .val (.long x1), .second, .val (.long x2), .second, .val (.long x3), .second, .val (.long x4), .second, .val (.long x5), .second, .val (.long r0), .second, .val (.ref a1), .val (.ref a5), .val (.ref a12), .val (.int (1 : Int32)), .val (.int (own_ag (own_pick x3 r0) r0 (own_ag (own_pick x4 x1) x1 (own_ag (own_pick x5 x2) x2 1)))), .val (.ref ra), .unset] [(.int (1 : Int32))]))
          refine own_go (fun _ => XS.goto X19.here hx rfl (pc0 := 146) (pc' := 150) rfl (hb hby at_146) (by decide) (by decide)) ?_
          show own_Go p e below _ (T19.setTop (mkF m 150 #[.val (.long x0), .second, .val (.long x1), .second, .val (.long x2), .second, .val (.long x3), .second, .val (.long x4), .second, .val (.long x5), .second, .val (.long r0), .second, .val (.ref a1), .val (.ref a5), .val (.ref a12), .val (.int (1 : Int32)), .val (.int (own_ag (own_pick x3 r0) r0 (own_ag (own_pick x4 x1) x1 (own_ag (own_pick x5 x2) x2 1)))), .val (.ref ra), .unset] [(.int (1 : Int32))]))
          refine own_go (fun _ => XS.istore X19.here hx rfl (hb hby at_150) rfl (l' := #[.val (.long x0), .second, .val (.long x1), .second, .val (.long x2), .second, .val (.long x3), .second, .val (.long x4), .second, .val (.long x5), .second, .val (.long r0), .second, .val (.ref a1), .val (.ref a5), .val (.ref a12), .val (.int (1 : Int32)), .val (.int (own_ag (own_pick x3 r0) r0 (own_ag (own_pick x4 x1) x1 (own_ag (own_pick x5 x2) x2 1)))), .val (.ref ra), .val (.int (1 : Int32))]) rfl) ?_
          show own_Go p e below _ (T19.setTop (mkF m 152 #[.val (.long x0), .second, .val (.long x1), .second, .val (.long x2), .second, .val (.long x3), .second, .val (.long x4), .second, .val (.long x5), .second, .val (.long r0), .second, .val (.ref a1), .val (.ref a5), .val (.ref a12), .val (.int (1 : Int32)), .val (.int (own_ag (own_pick x3 r0) r0 (own_ag (own_pick x4 x1) x1 (own_ag (own_pick x5 x2) x2 1)))), .val (.ref ra), .val (.int (1 : Int32))] []))
          refine own_go (fun _ => XS.iload X19.here hx rfl (hb hby at_152) rfl) ?_
          show own_Go p e below _ (T19.setTop (mkF m 154 #[.val (.long x0), .second, .val (.long x1), .second, .val (.long x2), .second, .val (.long x3), .second, .val (.long x4), .second, .val (.long x5), .second, .val (.long r0), .second, .val (.ref a1), .val (.ref a5), .val (.ref a12), .val (.int (1 : Int32)), .val (.int (own_ag (own_pick x3 r0) r0 (own_ag (own_pick x4 x1) x1 (own_ag (own_pick x5 x2) x2 1)))), .val (.ref ra), .val (.int (1 : Int32))] [(.int (1 : Int32))]))
          refine own_go (fun _ => XS.ifNo X19.here hx rfl (hb hby at_154) rfl (XT.i0_eq_f (by decide))) ?_
          show own_Go p e below _ (T19.setTop (mkF m 157 #[.val (.long x0), .second, .val (.long x1), .second, .val (.long x2), .second, .val (.long x3), .second, .val (.long x4), .second, .val (.long x5), .second, .val (.long r0), .second, .val (.ref a1), .val (.ref a5), .val (.ref a12), .val (.int (1 : Int32)), .val (.int (own_ag (own_pick x3 r0) r0 (own_ag (own_pick x4 x1) x1 (own_ag (own_pick x5 x2) x2 1)))), .val (.ref ra), .val (.int (1 : Int32))] []))
          refine own_go (fun _ => XS.iload X19.here hx rfl (hb hby at_157) rfl) ?_
          show own_Go p e below _ (T19.setTop (mkF m 159 #[.val (.long x0), .second, .val (.long x1), .second, .val (.long x2), .second, .val (.long x3), .second, .val (.long x4), .second, .val (.long x5), .second, .val (.long r0), .second, .val (.ref a1), .val (.ref a5), .val (.ref a12), .val (.int (1 : Int32)), .val (.int (own_ag (own_pick x3 r0) r0 (own_ag (own_pick x4 x1) x1 (own_ag (own_pick x5 x2) x2 1)))), .val (.ref ra), .val (.int (1 : Int32))] [(.int (own_ag (own_pick x3 r0) r0 (own_ag (own_pick x4 x1) x1 (own_ag (own_pick x5 x2) x2 1))))]))
          refine own_go (fun _ => XS.iload X19.here hx rfl (hb hby at_159) rfl) ?_
          show own_Go p e below _ (T19.setTop (mkF m 161 #[.val (.long x0), .second, .val (.long x1), .second, .val (.long x2), .second, .val (.long x3), .second, .val (.long x4), .second, .val (.long x5), .second, .val (.long r0), .second, .val (.ref a1), .val (.ref a5), .val (.ref a12), .val (.int (1 : Int32)), .val (.int (own_ag (own_pick x3 r0) r0 (own_ag (own_pick x4 x1) x1 (own_ag (own_pick x5 x2) x2 1)))), .val (.ref ra), .val (.int (1 : Int32))] [(.int (1 : Int32)), (.int (own_ag (own_pick x3 r0) r0 (own_ag (own_pick x4 x1) x1 (own_ag (own_pick x5 x2) x2 1))))]))
          have hag : (own_ag (own_pick x3 r0) r0 (own_ag (own_pick x4 x1) x1 (own_ag (own_pick x5 x2) x2 1))) = (1 : Int32) := by rw [own_ag_ok, own_ag_ok, own_ag_ok]; simp [ho0, ho1, ho2]
          refine own_go (fun _ => XS.icmpNo X19.here hx rfl (hb hby at_161) rfl (XT.ii_ne_f hag)) ?_
          show own_Go p e below _ (T19.setTop (mkF m 164 #[.val (.long x0), .second, .val (.long x1), .second, .val (.long x2), .second, .val (.long x3), .second, .val (.long x4), .second, .val (.long x5), .second, .val (.long r0), .second, .val (.ref a1), .val (.ref a5), .val (.ref a12), .val (.int (1 : Int32)), .val (.int (own_ag (own_pick x3 r0) r0 (own_ag (own_pick x4 x1) x1 (own_ag (own_pick x5 x2) x2 1)))), .val (.ref ra), .val (.int (1 : Int32))] []))
          refine own_go (fun _ => XS.aload X19.here hx rfl (hb hby at_164) rfl rfl) ?_
          show own_Go p e below _ (T19.setTop (mkF m 166 #[.val (.long x0), .second, .val (.long x1), .second, .val (.long x2), .second, .val (.long x3), .second, .val (.long x4), .second, .val (.long x5), .second, .val (.long r0), .second, .val (.ref a1), .val (.ref a5), .val (.ref a12), .val (.int (1 : Int32)), .val (.int (own_ag (own_pick x3 r0) r0 (own_ag (own_pick x4 x1) x1 (own_ag (own_pick x5 x2) x2 1)))), .val (.ref ra), .val (.int (1 : Int32))] [(.ref ra)]))
          refine own_go (fun _ => XS.ifnullNo X19.here hx rfl (hb hby at_166) rfl) ?_
          show own_Go p e below _ (T19.setTop (mkF m 169 #[.val (.long x0), .second, .val (.long x1), .second, .val (.long x2), .second, .val (.long x3), .second, .val (.long x4), .second, .val (.long x5), .second, .val (.long r0), .second, .val (.ref a1), .val (.ref a5), .val (.ref a12), .val (.int (1 : Int32)), .val (.int (own_ag (own_pick x3 r0) r0 (own_ag (own_pick x4 x1) x1 (own_ag (own_pick x5 x2) x2 1)))), .val (.ref ra), .val (.int (1 : Int32))] []))
          refine own_go (fun _ => XS.aload X19.here hx rfl (hb hby at_169) rfl rfl) ?_
          show own_Go p e below _ (T19.setTop (mkF m 171 #[.val (.long x0), .second, .val (.long x1), .second, .val (.long x2), .second, .val (.long x3), .second, .val (.long x4), .second, .val (.long x5), .second, .val (.long r0), .second, .val (.ref a1), .val (.ref a5), .val (.ref a12), .val (.int (1 : Int32)), .val (.int (own_ag (own_pick x3 r0) r0 (own_ag (own_pick x4 x1) x1 (own_ag (own_pick x5 x2) x2 1)))), .val (.ref ra), .val (.int (1 : Int32))] [(.ref ra)]))
          refine own_go (own_len X19 hx hZ e19 ra_A (g := (mkF m 171 #[.val (.long x0), .second, .val (.long x1), .second, .val (.long x2), .second, .val (.long x3), .second, .val (.long x4), .second, .val (.long x5), .second, .val (.long r0), .second, .val (.ref a1), .val (.ref a5), .val (.ref a12), .val (.int (1 : Int32)), .val (.int (own_ag (own_pick x3 r0) r0 (own_ag (own_pick x4 x1) x1 (own_ag (own_pick x5 x2) x2 1)))), .val (.ref ra), .val (.int (1 : Int32))] [(.ref ra)])) rfl rfl (hb hby at_171) (3 : Int32) rfl) ?_
          show own_Go p e below _ (T19.setTop (mkF m 172 #[.val (.long x0), .second, .val (.long x1), .second, .val (.long x2), .second, .val (.long x3), .second, .val (.long x4), .second, .val (.long x5), .second, .val (.long r0), .second, .val (.ref a1), .val (.ref a5), .val (.ref a12), .val (.int (1 : Int32)), .val (.int (own_ag (own_pick x3 r0) r0 (own_ag (own_pick x4 x1) x1 (own_ag (own_pick x5 x2) x2 1)))), .val (.ref ra), .val (.int (1 : Int32))] [(.int (3 : Int32))]))
          refine own_go (fun _ => XS.iconst X19.here hx rfl (hb hby at_172)) ?_
          show own_Go p e below _ (T19.setTop (mkF m 173 #[.val (.long x0), .second, .val (.long x1), .second, .val (.long x2), .second, .val (.long x3), .second, .val (.long x4), .second, .val (.long x5), .second, .val (.long r0), .second, .val (.ref a1), .val (.ref a5), .val (.ref a12), .val (.int (1 : Int32)), .val (.int (own_ag (own_pick x3 r0) r0 (own_ag (own_pick x4 x1) x1 (own_ag (own_pick x5 x2) x2 1)))), .val (.ref ra), .val (.int (1 : Int32))] [(.int (3 : Int32)), (.int (3 : Int32))]))
          refine own_go (fun _ => XS.icmpYes X19.here hx rfl (pc0 := 173) (pc' := 178) rfl (hb hby at_173) rfl (XT.ii_eq_t (by decide)) (by decide) (by decide)) ?_
          show own_Go p e below _ (T19.setTop (mkF m 178 #[.val (.long x0), .second, .val (.long x1), .second, .val (.long x2), .second, .val (.long x3), .second, .val (.long x4), .second, .val (.long x5), .second, .val (.long r0), .second, .val (.ref a1), .val (.ref a5), .val (.ref a12), .val (.int (1 : Int32)), .val (.int (own_ag (own_pick x3 r0) r0 (own_ag (own_pick x4 x1) x1 (own_ag (own_pick x5 x2) x2 1)))), .val (.ref ra), .val (.int (1 : Int32))] []))
          refine own_go (fun _ => XS.aload X19.here hx rfl (hb hby at_178) rfl rfl) ?_
          show own_Go p e below _ (T19.setTop (mkF m 180 #[.val (.long x0), .second, .val (.long x1), .second, .val (.long x2), .second, .val (.long x3), .second, .val (.long x4), .second, .val (.long x5), .second, .val (.long r0), .second, .val (.ref a1), .val (.ref a5), .val (.ref a12), .val (.int (1 : Int32)), .val (.int (own_ag (own_pick x3 r0) r0 (own_ag (own_pick x4 x1) x1 (own_ag (own_pick x5 x2) x2 1)))), .val (.ref ra), .val (.int (1 : Int32))] [(.ref ra)]))
          refine own_go (fun _ => XS.iconst X19.here hx rfl (hb hby at_180)) ?_
          show own_Go p e below _ (T19.setTop (mkF m 181 #[.val (.long x0), .second, .val (.long x1), .second, .val (.long x2), .second, .val (.long x3), .second, .val (.long x4), .second, .val (.long x5), .second, .val (.long r0), .second, .val (.ref a1), .val (.ref a5), .val (.ref a12), .val (.int (1 : Int32)), .val (.int (own_ag (own_pick x3 r0) r0 (own_ag (own_pick x4 x1) x1 (own_ag (own_pick x5 x2) x2 1)))), .val (.ref ra), .val (.int (1 : Int32))] [(.int (0 : Int32)), (.ref ra)]))
          refine own_go (own_ldJ X19 hx hZ e19 ra_A (g := (mkF m 181 #[.val (.long x0), .second, .val (.long x1), .second, .val (.long x2), .second, .val (.long x3), .second, .val (.long x4), .second, .val (.long x5), .second, .val (.long r0), .second, .val (.ref a1), .val (.ref a5), .val (.ref a12), .val (.int (1 : Int32)), .val (.int (own_ag (own_pick x3 r0) r0 (own_ag (own_pick x4 x1) x1 (own_ag (own_pick x5 x2) x2 1)))), .val (.ref ra), .val (.int (1 : Int32))] [(.int (0 : Int32)), (.ref ra)])) rfl rfl (hb hby at_181) 0 (by decide) (x := (.long r0)) rfl) ?_
          show own_Go p e below _ (T19.setTop (mkF m 182 #[.val (.long x0), .second, .val (.long x1), .second, .val (.long x2), .second, .val (.long x3), .second, .val (.long x4), .second, .val (.long x5), .second, .val (.long r0), .second, .val (.ref a1), .val (.ref a5), .val (.ref a12), .val (.int (1 : Int32)), .val (.int (own_ag (own_pick x3 r0) r0 (own_ag (own_pick x4 x1) x1 (own_ag (own_pick x5 x2) x2 1)))), .val (.ref ra), .val (.int (1 : Int32))] [(.long r0)]))
          refine own_go (fun _ => XT.lload X19.here hx rfl (hb hby at_182) rfl) ?_
          show own_Go p e below _ (T19.setTop (mkF m 184 #[.val (.long x0), .second, .val (.long x1), .second, .val (.long x2), .second, .val (.long x3), .second, .val (.long x4), .second, .val (.long x5), .second, .val (.long r0), .second, .val (.ref a1), .val (.ref a5), .val (.ref a12), .val (.int (1 : Int32)), .val (.int (own_ag (own_pick x3 r0) r0 (own_ag (own_pick x4 x1) x1 (own_ag (own_pick x5 x2) x2 1)))), .val (.ref ra), .val (.int (1 : Int32))] [(.long r0), (.long r0)]))
          refine own_go (fun _ => XT.lcmp X19.here hx rfl (hb hby at_184) rfl) ?_
          show own_Go p e below _ (T19.setTop (mkF m 185 #[.val (.long x0), .second, .val (.long x1), .second, .val (.long x2), .second, .val (.long x3), .second, .val (.long x4), .second, .val (.long x5), .second, .val (.long r0), .second, .val (.ref a1), .val (.ref a5), .val (.ref a12), .val (.int (1 : Int32)), .val (.int (own_ag (own_pick x3 r0) r0 (own_ag (own_pick x4 x1) x1 (own_ag (own_pick x5 x2) x2 1)))), .val (.ref ra), .val (.int (1 : Int32))] [(.int (XT.cmpL r0 r0))]))
          refine own_go (fun _ => XS.ifNo X19.here hx rfl (hb hby at_185) rfl (XT.ll_ne_f rfl)) ?_
          show own_Go p e below _ (T19.setTop (mkF m 188 #[.val (.long x0), .second, .val (.long x1), .second, .val (.long x2), .second, .val (.long x3), .second, .val (.long x4), .second, .val (.long x5), .second, .val (.long r0), .second, .val (.ref a1), .val (.ref a5), .val (.ref a12), .val (.int (1 : Int32)), .val (.int (own_ag (own_pick x3 r0) r0 (own_ag (own_pick x4 x1) x1 (own_ag (own_pick x5 x2) x2 1)))), .val (.ref ra), .val (.int (1 : Int32))] []))
          refine own_go (fun _ => XS.aload X19.here hx rfl (hb hby at_188) rfl rfl) ?_
          show own_Go p e below _ (T19.setTop (mkF m 190 #[.val (.long x0), .second, .val (.long x1), .second, .val (.long x2), .second, .val (.long x3), .second, .val (.long x4), .second, .val (.long x5), .second, .val (.long r0), .second, .val (.ref a1), .val (.ref a5), .val (.ref a12), .val (.int (1 : Int32)), .val (.int (own_ag (own_pick x3 r0) r0 (own_ag (own_pick x4 x1) x1 (own_ag (own_pick x5 x2) x2 1)))), .val (.ref ra), .val (.int (1 : Int32))] [(.ref ra)]))
          refine own_go (fun _ => XS.iconst X19.here hx rfl (hb hby at_190)) ?_
          show own_Go p e below _ (T19.setTop (mkF m 191 #[.val (.long x0), .second, .val (.long x1), .second, .val (.long x2), .second, .val (.long x3), .second, .val (.long x4), .second, .val (.long x5), .second, .val (.long r0), .second, .val (.ref a1), .val (.ref a5), .val (.ref a12), .val (.int (1 : Int32)), .val (.int (own_ag (own_pick x3 r0) r0 (own_ag (own_pick x4 x1) x1 (own_ag (own_pick x5 x2) x2 1)))), .val (.ref ra), .val (.int (1 : Int32))] [(.int (1 : Int32)), (.ref ra)]))
          refine own_go (own_ldJ X19 hx hZ e19 ra_A (g := (mkF m 191 #[.val (.long x0), .second, .val (.long x1), .second, .val (.long x2), .second, .val (.long x3), .second, .val (.long x4), .second, .val (.long x5), .second, .val (.long r0), .second, .val (.ref a1), .val (.ref a5), .val (.ref a12), .val (.int (1 : Int32)), .val (.int (own_ag (own_pick x3 r0) r0 (own_ag (own_pick x4 x1) x1 (own_ag (own_pick x5 x2) x2 1)))), .val (.ref ra), .val (.int (1 : Int32))] [(.int (1 : Int32)), (.ref ra)])) rfl rfl (hb hby at_191) 1 (by decide) (x := (.long x1)) rfl) ?_
          show own_Go p e below _ (T19.setTop (mkF m 192 #[.val (.long x0), .second, .val (.long x1), .second, .val (.long x2), .second, .val (.long x3), .second, .val (.long x4), .second, .val (.long x5), .second, .val (.long r0), .second, .val (.ref a1), .val (.ref a5), .val (.ref a12), .val (.int (1 : Int32)), .val (.int (own_ag (own_pick x3 r0) r0 (own_ag (own_pick x4 x1) x1 (own_ag (own_pick x5 x2) x2 1)))), .val (.ref ra), .val (.int (1 : Int32))] [(.long x1)]))
          refine own_go (fun _ => XT.lloadN X19.here hx rfl (hb hby at_192) rfl) ?_
          show own_Go p e below _ (T19.setTop (mkF m 193 #[.val (.long x0), .second, .val (.long x1), .second, .val (.long x2), .second, .val (.long x3), .second, .val (.long x4), .second, .val (.long x5), .second, .val (.long r0), .second, .val (.ref a1), .val (.ref a5), .val (.ref a12), .val (.int (1 : Int32)), .val (.int (own_ag (own_pick x3 r0) r0 (own_ag (own_pick x4 x1) x1 (own_ag (own_pick x5 x2) x2 1)))), .val (.ref ra), .val (.int (1 : Int32))] [(.long x1), (.long x1)]))
          refine own_go (fun _ => XT.lcmp X19.here hx rfl (hb hby at_193) rfl) ?_
          show own_Go p e below _ (T19.setTop (mkF m 194 #[.val (.long x0), .second, .val (.long x1), .second, .val (.long x2), .second, .val (.long x3), .second, .val (.long x4), .second, .val (.long x5), .second, .val (.long r0), .second, .val (.ref a1), .val (.ref a5), .val (.ref a12), .val (.int (1 : Int32)), .val (.int (own_ag (own_pick x3 r0) r0 (own_ag (own_pick x4 x1) x1 (own_ag (own_pick x5 x2) x2 1)))), .val (.ref ra), .val (.int (1 : Int32))] [(.int (XT.cmpL x1 x1))]))
          refine own_go (fun _ => XS.ifNo X19.here hx rfl (hb hby at_194) rfl (XT.ll_ne_f rfl)) ?_
          show own_Go p e below _ (T19.setTop (mkF m 197 #[.val (.long x0), .second, .val (.long x1), .second, .val (.long x2), .second, .val (.long x3), .second, .val (.long x4), .second, .val (.long x5), .second, .val (.long r0), .second, .val (.ref a1), .val (.ref a5), .val (.ref a12), .val (.int (1 : Int32)), .val (.int (own_ag (own_pick x3 r0) r0 (own_ag (own_pick x4 x1) x1 (own_ag (own_pick x5 x2) x2 1)))), .val (.ref ra), .val (.int (1 : Int32))] []))
          refine own_go (fun _ => XS.aload X19.here hx rfl (hb hby at_197) rfl rfl) ?_
          show own_Go p e below _ (T19.setTop (mkF m 199 #[.val (.long x0), .second, .val (.long x1), .second, .val (.long x2), .second, .val (.long x3), .second, .val (.long x4), .second, .val (.long x5), .second, .val (.long r0), .second, .val (.ref a1), .val (.ref a5), .val (.ref a12), .val (.int (1 : Int32)), .val (.int (own_ag (own_pick x3 r0) r0 (own_ag (own_pick x4 x1) x1 (own_ag (own_pick x5 x2) x2 1)))), .val (.ref ra), .val (.int (1 : Int32))] [(.ref ra)]))
          refine own_go (fun _ => XS.iconst X19.here hx rfl (hb hby at_199)) ?_
          show own_Go p e below _ (T19.setTop (mkF m 200 #[.val (.long x0), .second, .val (.long x1), .second, .val (.long x2), .second, .val (.long x3), .second, .val (.long x4), .second, .val (.long x5), .second, .val (.long r0), .second, .val (.ref a1), .val (.ref a5), .val (.ref a12), .val (.int (1 : Int32)), .val (.int (own_ag (own_pick x3 r0) r0 (own_ag (own_pick x4 x1) x1 (own_ag (own_pick x5 x2) x2 1)))), .val (.ref ra), .val (.int (1 : Int32))] [(.int (2 : Int32)), (.ref ra)]))
          refine own_go (own_ldJ X19 hx hZ e19 ra_A (g := (mkF m 200 #[.val (.long x0), .second, .val (.long x1), .second, .val (.long x2), .second, .val (.long x3), .second, .val (.long x4), .second, .val (.long x5), .second, .val (.long r0), .second, .val (.ref a1), .val (.ref a5), .val (.ref a12), .val (.int (1 : Int32)), .val (.int (own_ag (own_pick x3 r0) r0 (own_ag (own_pick x4 x1) x1 (own_ag (own_pick x5 x2) x2 1)))), .val (.ref ra), .val (.int (1 : Int32))] [(.int (2 : Int32)), (.ref ra)])) rfl rfl (hb hby at_200) 2 (by decide) (x := (.long x2)) rfl) ?_
          show own_Go p e below _ (T19.setTop (mkF m 201 #[.val (.long x0), .second, .val (.long x1), .second, .val (.long x2), .second, .val (.long x3), .second, .val (.long x4), .second, .val (.long x5), .second, .val (.long r0), .second, .val (.ref a1), .val (.ref a5), .val (.ref a12), .val (.int (1 : Int32)), .val (.int (own_ag (own_pick x3 r0) r0 (own_ag (own_pick x4 x1) x1 (own_ag (own_pick x5 x2) x2 1)))), .val (.ref ra), .val (.int (1 : Int32))] [(.long x2)]))
          refine own_go (fun _ => XT.lload X19.here hx rfl (hb hby at_201) rfl) ?_
          show own_Go p e below _ (T19.setTop (mkF m 203 #[.val (.long x0), .second, .val (.long x1), .second, .val (.long x2), .second, .val (.long x3), .second, .val (.long x4), .second, .val (.long x5), .second, .val (.long r0), .second, .val (.ref a1), .val (.ref a5), .val (.ref a12), .val (.int (1 : Int32)), .val (.int (own_ag (own_pick x3 r0) r0 (own_ag (own_pick x4 x1) x1 (own_ag (own_pick x5 x2) x2 1)))), .val (.ref ra), .val (.int (1 : Int32))] [(.long x2), (.long x2)]))
          refine own_go (fun _ => XT.lcmp X19.here hx rfl (hb hby at_203) rfl) ?_
          show own_Go p e below _ (T19.setTop (mkF m 204 #[.val (.long x0), .second, .val (.long x1), .second, .val (.long x2), .second, .val (.long x3), .second, .val (.long x4), .second, .val (.long x5), .second, .val (.long r0), .second, .val (.ref a1), .val (.ref a5), .val (.ref a12), .val (.int (1 : Int32)), .val (.int (own_ag (own_pick x3 r0) r0 (own_ag (own_pick x4 x1) x1 (own_ag (own_pick x5 x2) x2 1)))), .val (.ref ra), .val (.int (1 : Int32))] [(.int (XT.cmpL x2 x2))]))
          refine own_go (fun _ => XS.ifNo X19.here hx rfl (hb hby at_204) rfl (XT.ll_ne_f rfl)) ?_
          show own_Go p e below _ (T19.setTop (mkF m 207 #[.val (.long x0), .second, .val (.long x1), .second, .val (.long x2), .second, .val (.long x3), .second, .val (.long x4), .second, .val (.long x5), .second, .val (.long r0), .second, .val (.ref a1), .val (.ref a5), .val (.ref a12), .val (.int (1 : Int32)), .val (.int (own_ag (own_pick x3 r0) r0 (own_ag (own_pick x4 x1) x1 (own_ag (own_pick x5 x2) x2 1)))), .val (.ref ra), .val (.int (1 : Int32))] []))
          refine own_go (fun _ => XS.iconst X19.here hx rfl (hb hby at_207)) ?_
          show own_Go p e below _ (T19.setTop (mkF m 208 #[.val (.long x0), .second, .val (.long x1), .second, .val (.long x2), .second, .val (.long x3), .second, .val (.long x4), .second, .val (.long x5), .second, .val (.long r0), .second, .val (.ref a1), .val (.ref a5), .val (.ref a12), .val (.int (1 : Int32)), .val (.int (own_ag (own_pick x3 r0) r0 (own_ag (own_pick x4 x1) x1 (own_ag (own_pick x5 x2) x2 1)))), .val (.ref ra), .val (.int (1 : Int32))] [(.int (1 : Int32))]))
          refine own_go (fun _ => XS.goto X19.here hx rfl (pc0 := 208) (pc' := 212) rfl (hb hby at_208) (by decide) (by decide)) ?_
          show own_Go p e below _ (T19.setTop (mkF m 212 #[.val (.long x0), .second, .val (.long x1), .second, .val (.long x2), .second, .val (.long x3), .second, .val (.long x4), .second, .val (.long x5), .second, .val (.long r0), .second, .val (.ref a1), .val (.ref a5), .val (.ref a12), .val (.int (1 : Int32)), .val (.int (own_ag (own_pick x3 r0) r0 (own_ag (own_pick x4 x1) x1 (own_ag (own_pick x5 x2) x2 1)))), .val (.ref ra), .val (.int (1 : Int32))] [(.int (1 : Int32))]))
          exact own_iret X19 hx hlk hret (Or.inr (Or.inl rfl)) rfl (hb hby at_212) (by decide) (by decide) ⟨rfl, N16⟩
  refine own_go (fun _ => XT.lloadN X.here hx rfl (hb hby at_0) rfl) ?_
  show own_Go p e below _ (T.setTop (mkF m 1 #[.val (.long x0), .second, .val (.long x1), .second, .val (.long x2), .second, .val (.long x3), .second, .val (.long x4), .second, .val (.long x5), .second, .unset, .unset, .unset, .unset, .unset, .unset, .unset, .unset, .unset] [(.long x0)]))
  refine own_go (X.ldc2Long hx hown (mvT hZ (hw _ (List.mem_of_getElem? (i := 0) rfl))) (g := (mkF m 1 #[.val (.long x0), .second, .val (.long x1), .second, .val (.long x2), .second, .val (.long x3), .second, .val (.long x4), .second, .val (.long x5), .second, .unset, .unset, .unset, .unset, .unset, .unset, .unset, .unset, .unset] [(.long x0)])) rfl (hb hby at_1)) ?_
  show own_Go p e below _ (T.setTop (mkF m 4 #[.val (.long x0), .second, .val (.long x1), .second, .val (.long x2), .second, .val (.long x3), .second, .val (.long x4), .second, .val (.long x5), .second, .unset, .unset, .unset, .unset, .unset, .unset, .unset, .unset, .unset] [(.long (9223372036854775807 : Int64)), (.long x0)]))
  refine own_go (fun _ => XT.land X.here hx rfl (hb hby at_4) rfl) ?_
  show own_Go p e below _ (T.setTop (mkF m 5 #[.val (.long x0), .second, .val (.long x1), .second, .val (.long x2), .second, .val (.long x3), .second, .val (.long x4), .second, .val (.long x5), .second, .unset, .unset, .unset, .unset, .unset, .unset, .unset, .unset, .unset] [(.long (x0 &&& (9223372036854775807 : Int64)))]))
  refine own_go (fun _ => XT.lstore X.here hx rfl (hb hby at_5) rfl (l' := #[.val (.long x0), .second, .val (.long x1), .second, .val (.long x2), .second, .val (.long x3), .second, .val (.long x4), .second, .val (.long x5), .second, .val (.long (x0 &&& (9223372036854775807 : Int64))), .second, .unset, .unset, .unset, .unset, .unset, .unset, .unset]) rfl) ?_
  show own_Go p e below _ (T.setTop (mkF m 7 #[.val (.long x0), .second, .val (.long x1), .second, .val (.long x2), .second, .val (.long x3), .second, .val (.long x4), .second, .val (.long x5), .second, .val (.long (x0 &&& (9223372036854775807 : Int64))), .second, .unset, .unset, .unset, .unset, .unset, .unset, .unset] []))
  refine own_go (fun _ => XT.lload X.here hx rfl (hb hby at_7) rfl) ?_
  show own_Go p e below _ (T.setTop (mkF m 9 #[.val (.long x0), .second, .val (.long x1), .second, .val (.long x2), .second, .val (.long x3), .second, .val (.long x4), .second, .val (.long x5), .second, .val (.long (x0 &&& (9223372036854775807 : Int64))), .second, .unset, .unset, .unset, .unset, .unset, .unset, .unset] [(.long (x0 &&& (9223372036854775807 : Int64)))]))
  refine own_go (fun _ => XT.lconst X.here hx rfl (hb hby at_9)) ?_
  show own_Go p e below _ (T.setTop (mkF m 10 #[.val (.long x0), .second, .val (.long x1), .second, .val (.long x2), .second, .val (.long x3), .second, .val (.long x4), .second, .val (.long x5), .second, .val (.long (x0 &&& (9223372036854775807 : Int64))), .second, .unset, .unset, .unset, .unset, .unset, .unset, .unset] [(.long (0 : Int64)), (.long (x0 &&& (9223372036854775807 : Int64)))]))
  refine own_go (fun _ => XT.lcmp X.here hx rfl (hb hby at_10) rfl) ?_
  show own_Go p e below _ (T.setTop (mkF m 11 #[.val (.long x0), .second, .val (.long x1), .second, .val (.long x2), .second, .val (.long x3), .second, .val (.long x4), .second, .val (.long x5), .second, .val (.long (x0 &&& (9223372036854775807 : Int64))), .second, .unset, .unset, .unset, .unset, .unset, .unset, .unset] [(.int (XT.cmpL (x0 &&& (9223372036854775807 : Int64)) (0 : Int64)))]))
  by_cases hc : (x0 &&& (9223372036854775807 : Int64)) = (0 : Int64)
  · skip
    refine own_go (fun _ => XS.ifNo X.here hx rfl (hb hby at_11) rfl (XT.ll_ne_f hc)) ?_
    show own_Go p e below _ (T.setTop (mkF m 14 #[.val (.long x0), .second, .val (.long x1), .second, .val (.long x2), .second, .val (.long x3), .second, .val (.long x4), .second, .val (.long x5), .second, .val (.long (x0 &&& (9223372036854775807 : Int64))), .second, .unset, .unset, .unset, .unset, .unset, .unset, .unset] []))
    refine own_go (fun _ => XT.lconst X.here hx rfl (hb hby at_14)) ?_
    show own_Go p e below _ (T.setTop (mkF m 15 #[.val (.long x0), .second, .val (.long x1), .second, .val (.long x2), .second, .val (.long x3), .second, .val (.long x4), .second, .val (.long x5), .second, .val (.long (x0 &&& (9223372036854775807 : Int64))), .second, .unset, .unset, .unset, .unset, .unset, .unset, .unset] [(.long (1 : Int64))]))
    refine own_go (fun _ => XT.lstore X.here hx rfl (hb hby at_15) rfl (l' := #[.val (.long x0), .second, .val (.long x1), .second, .val (.long x2), .second, .val (.long x3), .second, .val (.long x4), .second, .val (.long x5), .second, .val (.long (1 : Int64)), .second, .unset, .unset, .unset, .unset, .unset, .unset, .unset]) rfl) ?_
    show own_Go p e below _ (T.setTop (mkF m 17 #[.val (.long x0), .second, .val (.long x1), .second, .val (.long x2), .second, .val (.long x3), .second, .val (.long x4), .second, .val (.long x5), .second, .val (.long (1 : Int64)), .second, .unset, .unset, .unset, .unset, .unset, .unset, .unset] []))
    exact tail _ (by decide)
  · skip
    refine own_go (fun _ => XS.ifYes X.here hx rfl (pc0 := 11) (pc' := 17) rfl (hb hby at_11) rfl (XT.ll_ne_t hc) (by decide) (by decide)) ?_
    show own_Go p e below _ (T.setTop (mkF m 17 #[.val (.long x0), .second, .val (.long x1), .second, .val (.long x2), .second, .val (.long x3), .second, .val (.long x4), .second, .val (.long x5), .second, .val (.long (x0 &&& (9223372036854775807 : Int64))), .second, .unset, .unset, .unset, .unset, .unset, .unset, .unset] []))
    exact tail _ (own_pos x0 hc)
set_option maxRecDepth 65536 in
set_option maxHeartbeats 40000000 in
theorem comes_1 {Post : Tables → Env → Array Value → State → Outcome → State → Prop} (hpost : ∀ tb e args s v u, (limb_1_1.after args s (.returned v) u = true ∧ limb_1_2.after args s (.returned v) u = true ∧ True) → FrameEnd s (.returned v) u (Jvm.fieldLocs frame_1_writes args s ++ Jvm.arrayLocs frame_1_arrays args s ++ Jvm.staticLocs frame_1_statics s) 24 128 → Post tb e args s (.returned v) u) :
    ArmFor flags0 classFile x code maxLocals ret World_1 tables_1 room_1 Calls_1 rest_1 Pre_1 Post := by
  intro l hfl _ _ p e ha hc hk s m args below hf hA hF happ hP
  obtain ⟨hcalls, hrest, hpre⟩ := hP
  obtain ⟨-, -, -, hnamed, -, -, -, hat⟩ := (Spec.applies_iff hf).mp happ
  obtain ⟨hg, hn⟩ := and_e (Cond.before_iff.mp (show (Jvm.Cond.and given_1 narrow_1).before args s = true from hpre))
  obtain ⟨gc, gr0⟩ := and_e hg
  obtain ⟨g0, gr1⟩ := and_e gr0
  obtain ⟨g1, gr2⟩ := and_e gr1
  obtain ⟨g2, gr3⟩ := and_e gr2
  obtain ⟨g3, gr4⟩ := and_e gr3
  obtain ⟨g4, gr5⟩ := and_e gr4
  obtain ⟨w0, w1, w2, w3, w4, w5, rfl⟩ : ∃ w0 w1 w2 w3 w4 w5 : Value, args = #[w0, w1, w2, w3, w4, w5] := by
    have hs : args.size = 6 := by simpa [Cond.value, given_1] using gc
    obtain ⟨L⟩ := args
    match L, hs with
    | [w0, w1, w2, w3, w4, w5], _ => exact ⟨w0, w1, w2, w3, w4, w5, rfl⟩
  have hw := fun d (hd : d ∈ tables_1) => atoms_spec (ws := Jvm.Cond.code x code maxLocals ret :: tables_1) hat d (List.mem_cons_of_mem _ hd)
  have hfit : Fit s := fun {y c} hc i hi => by
    obtain ⟨ha, rfl⟩ := Array.getElem?_eq_some_iff.mp hc
    have q := List.all_eq_true.mp ((Array.all_eq_true_iff_forall_mem.mp hF) _ (Array.getElem_mem ha)) i (List.mem_range.mpr hi)
    simpa [Array.getElem?_eq_getElem hi] using q
  obtain ⟨i0, ei0⟩ := isL_v g0
  obtain rfl : w0 = (.long i0) := Option.some.inj ei0
  obtain ⟨i1, ei1⟩ := isL_v g1
  obtain rfl : w1 = (.long i1) := Option.some.inj ei1
  obtain ⟨i2, ei2⟩ := isL_v g2
  obtain rfl : w2 = (.long i2) := Option.some.inj ei2
  obtain ⟨i3, ei3⟩ := isL_v g3
  obtain rfl : w3 = (.long i3) := Option.some.inj ei3
  obtain ⟨i4, ei4⟩ := isL_v g4
  obtain rfl : w4 = (.long i4) := Option.some.inj ei4
  obtain ⟨i5, ei5⟩ := isL_v gr5
  obtain rfl : w5 = (.long i5) := Option.some.inj ei5
  obtain ⟨n, o, h1, h2, h3, _, L, rfl, ⟨rfl, N⟩, hq⟩ := own_main_con l s _ hw i0 i1 i2 i3 i4 i5  s.heap tables_1 p e ha hc hk s m _ below hf ((Spec.applies_iff_loose hf).mp happ).1 ⟨rfl, State.Warmed39.refl s, rfl⟩ trivial
  refine ⟨n, _, h1, h2, h3, hpost _ _ _ _ _ _ ⟨Cond.after_iff.mpr rfl, Cond.after_iff.mpr (eq_i res_at (Term.int_eval (1)) rfl), trivial⟩ ⟨hq.1, hq.2.1, (hq.2.2.sift fun y hy => Or.inr (N y hy)).mono (by decide) (by decide)⟩⟩
theorem main_1_1 : Claimed_1_1 := comes_1 fun _ _ _ _ _ _ h hF => ⟨h.1, hF⟩
theorem main_1_2 : Claimed_1_2 := comes_1 fun _ _ _ _ _ _ h hF => ⟨h.2.1, hF⟩
end Jvm.Pilot.@@N@@
namespace Jvm.Pilot.@@N@@
open Jvm Jvm.ClassFile Sem Op Lib Jvm.Free Jvm.Stand Jvm.Pilot.@@N@@.Jvm.D
/-! MADE BY PROGRAM (witnessworld.py) out of the Statement's table words and the real class files: 11 classes; the members and pool entries that the words name. The judged class is class 1, her method 3. -/
namespace start1
open Jvm.ClassFile
def u (s : String) : CpInfo := .utf8 (stringToUtf16 s)
/-- a pool by its gaps: so many unusable entries, then the entry; so many at the end -/
def gap : Nat → List CpInfo → List CpInfo
  | 0, r => r
  | n + 1, r => .unusable :: gap n r
def poolList (es : List (Nat × CpInfo)) (last : Nat) : List CpInfo := es.foldr (fun e r => gap e.1 (e.2 :: r)) (gap last [])
def pool (es : List (Nat × CpInfo)) (last : Nat) : Array CpInfo := ⟨poolList es last⟩
def fileOf (pool : Array CpInfo) (this : Nat) (attrs : Array Attribute := #[]) (ms : Array MethodInfo := #[]) (fl : Nat := 33) (sup : Nat := 0) (ifs : Array Nat := #[]) (fds : Array FieldInfo := #[]) : ClassFile where
  minorVersion := 0
  majorVersion := 65
  constantPool := pool
  accessFlags := fl
  thisClass := this
  superClass := sup
  interfaces := ifs
  fields := fds
  methods := ms
  attributes := attrs
def plain (name : String) (sup : Option ClassId) : Class where
  name := name
  kind := .ordinary
  loader := none
  accessFlags := 33
  super := sup
  interfaces := #[]
  cf := none
  fields := #[]
  methods := #[]
  instanceTypes := #[]
  staticTypes := #[]
  resolved := #[]
  callSites := []
  init := .initialized
  statics := none
  mirror := none

def pool0 : Array CpInfo := pool [(5, u "<init>"), (0, u "()V"), (1, .class_ 10), (1, u "java/lang/Object"), (85, u "clone"), (0, u "()Ljava/lang/Object;")] 26

def k0c0 : Code := { maxStack := 0, maxLocals := 1, code := object_method_1_code, exceptionTable := #[], attributes := #[] }
def k0m0 : Method := { name := "<init>", desc := "()V", sig := { parameters := [], returnType := none }, accessFlags := 1, code := some k0c0 }
def k0m1 : Method := { name := "clone", desc := "()Ljava/lang/Object;", sig := { parameters := [], returnType := some (.object "java/lang/Object") }, accessFlags := 260, code := none }
/-- java/lang/Object -/
def k0 : Class := { plain "java/lang/Object" none with
  accessFlags := 33
  interfaces := #[]
  cf := some (fileOf pool0 8 #[] #[{ accessFlags := 1, nameIndex := 5, descriptorIndex := 6, attributes := #[] }, { accessFlags := 260, nameIndex := 96, descriptorIndex := 97, attributes := #[] }] 33 0 #[] #[])
  fields := #[]
  methods := #[k0m0, k0m1]
  instanceTypes := #[]
  staticTypes := #[]
  resolved := Array.replicate 124 none
  statics := none }

def pool1 : Array CpInfo := pool [(2, .class_ 4), (1, u "java/lang/Object"), (0, u "<init>"), (0, u "()V"), (0, .long 3), (3, .long 9223372036854775807), (1, .methodref 14 15), (0, .class_ 16), (0, .nameAndType 17 18), (0, u "tidemark/io/RunsAgreePinLaw"), (0, u "pick"), (0, u "(JJ)J"), (0, .class_ 20), (0, u "tidemark/io/Runs"), (0, .methodref 19 22), (0, .nameAndType 5 23), (0, u "(IIJ)V"), (0, .methodref 19 25), (0, .nameAndType 26 27), (0, u "admit"), (0, u "(IJ[J)Z"), (0, .methodref 19 29), (0, .nameAndType 30 31), (0, u "agree"), (0, u "([J)Z"), (0, .methodref 19 33), (0, .nameAndType 34 35), (0, u "toTell"), (0, u "(I)[J"), (0, .methodref 14 37), (0, .nameAndType 38 39), (0, u "ok"), (0, u "(JJ)Z"), (3, u "law"), (0, u "(JJJJJJ)Z")] 4

def k1m0 : Method := { name := "<init>", desc := "()V", sig := { parameters := [], returnType := none }, accessFlags := 1, code := none }
def k1c1 : Code := { maxStack := 4, maxLocals := 6, code := method_2_code, exceptionTable := #[], attributes := #[] }
def k1m1 : Method := { name := "pick", desc := "(JJ)J", sig := { parameters := [.long, .long], returnType := some .long }, accessFlags := 10, code := some k1c1 }
def k1c2 : Code := { maxStack := 4, maxLocals := 4, code := method_3_code, exceptionTable := #[], attributes := #[] }
def k1m2 : Method := { name := "ok", desc := "(JJ)Z", sig := { parameters := [.long, .long], returnType := some .boolean }, accessFlags := 10, code := some k1c2 }
def k1c3 : Code := { maxStack := 7, maxLocals := 21, code := code, exceptionTable := #[], attributes := #[] }
def k1m3 : Method := { name := "law", desc := "(JJJJJJ)Z", sig := { parameters := [.long, .long, .long, .long, .long, .long], returnType := some .boolean }, accessFlags := 9, code := some k1c3 }
/-- tidemark/io/RunsAgreePinLaw -/
def k1 : Class := { plain "tidemark/io/RunsAgreePinLaw" (some 0) with
  accessFlags := 49
  interfaces := #[]
  cf := some (fileOf pool1 14 #[] #[{ accessFlags := 1, nameIndex := 5, descriptorIndex := 6, attributes := #[] }, { accessFlags := 10, nameIndex := 17, descriptorIndex := 18, attributes := #[] }, { accessFlags := 10, nameIndex := 38, descriptorIndex := 39, attributes := #[] }, { accessFlags := 9, nameIndex := 43, descriptorIndex := 44, attributes := #[] }] 49 2 #[] #[])
  fields := #[]
  methods := #[k1m0, k1m1, k1m2, k1m3]
  instanceTypes := #[]
  staticTypes := #[]
  resolved := Array.replicate 49 none
  statics := none }

def pool2 : Array CpInfo := pool [(1, .methodref 2 3), (0, .class_ 4), (0, .nameAndType 5 6), (0, u "java/lang/Object"), (0, u "<init>"), (0, u "()V"), (9, .fieldref 17 18), (0, .class_ 19), (0, .nameAndType 20 21), (0, u "tidemark/io/Runs"), (0, u "self"), (0, u "I"), (0, .fieldref 17 23), (0, .nameAndType 24 25), (0, u "runs"), (0, u "[J"), (0, .fieldref 17 27), (0, .nameAndType 28 25), (0, u "marks"), (0, .fieldref 17 30), (0, .nameAndType 31 21), (0, u "marked"), (0, .methodref 17 33), (0, .nameAndType 34 35), (0, u "markOf"), (0, u "([J)J"), (0, .fieldref 17 37), (0, .nameAndType 38 25), (0, u "heard"), (9, u "()J"), (8, u "LAST"), (0, u "Ljava/util/concurrent/atomic/AtomicLong;"), (10, .long 11400714819323198485), (1, .methodref 17 72), (0, .nameAndType 73 74), (0, u "stirred"), (0, u "(J)J"), (0, .long 13787848793156543929), (1, .long 10723151780598845931), (1, .methodref 17 80), (0, .nameAndType 81 48), (0, u "mark"), (0, .methodref 83 84), (0, .class_ 25), (0, .nameAndType 85 86), (0, u "clone"), (0, u "()Ljava/lang/Object;"), (0, .fieldref 17 88), (0, .nameAndType 89 90), (0, u "preceded"), (0, u "Z"), (4, .fieldref 17 96), (0, .nameAndType 97 90), (0, u "chosen"), (0, .methodref 17 99), (0, .nameAndType 100 101), (0, u "agree"), (0, u "([J)Z"), (0, .methodref 17 103), (0, .nameAndType 104 101), (0, u "noneLater"), (0, .methodref 17 106), (0, .nameAndType 107 108), (0, u "learn"), (0, u "([J)V"), (0, .methodref 17 110), (0, .nameAndType 111 112), (0, u "noteMark"), (0, u "(IJ)V"), (0, .methodref 17 114), (0, .nameAndType 115 116), (0, u "knowsEvery"), (0, u "()Z"), (7, u "GAMMA"), (0, u "J"), (1, u "(IIJ)V"), (4, u "toTell"), (0, u "(I)[J"), (0, u "admit"), (0, u "(IJ[J)Z")] 31

def k2c0 : Code := { maxStack := 5, maxLocals := 5, code := prog_25_method_1_code, exceptionTable := #[], attributes := #[] }
def k2m0 : Method := { name := "<init>", desc := "(IIJ)V", sig := { parameters := [.int, .int, .long], returnType := none }, accessFlags := 0, code := some k2c0 }
def k2c1 : Code := { maxStack := 4, maxLocals := 8, code := prog_25_method_3_code, exceptionTable := #[], attributes := #[] }
def k2m1 : Method := { name := "markOf", desc := "([J)J", sig := { parameters := [(.array .long)], returnType := some .long }, accessFlags := 8, code := some k2c1 }
def k2c2 : Code := { maxStack := 5, maxLocals := 4, code := prog_25_method_4_code, exceptionTable := #[], attributes := #[] }
def k2m2 : Method := { name := "stirred", desc := "(J)J", sig := { parameters := [.long], returnType := some .long }, accessFlags := 10, code := some k2c2 }
def k2c3 : Code := { maxStack := 3, maxLocals := 1, code := prog_25_method_5_code, exceptionTable := #[], attributes := #[] }
def k2m3 : Method := { name := "mark", desc := "()J", sig := { parameters := [], returnType := some .long }, accessFlags := 0, code := some k2c3 }
def k2c4 : Code := { maxStack := 4, maxLocals := 2, code := prog_25_method_6_code, exceptionTable := #[], attributes := #[] }
def k2m4 : Method := { name := "toTell", desc := "(I)[J", sig := { parameters := [.int], returnType := some (.array .long) }, accessFlags := 0, code := some k2c4 }
def k2c5 : Code := { maxStack := 6, maxLocals := 6, code := prog_25_method_7_code, exceptionTable := #[], attributes := #[] }
def k2m5 : Method := { name := "admit", desc := "(IJ[J)Z", sig := { parameters := [.int, .long, (.array .long)], returnType := some .boolean }, accessFlags := 0, code := some k2c5 }
def k2c6 : Code := { maxStack := 4, maxLocals := 4, code := prog_25_method_8_code, exceptionTable := #[], attributes := #[] }
def k2m6 : Method := { name := "noteMark", desc := "(IJ)V", sig := { parameters := [.int, .long], returnType := none }, accessFlags := 0, code := some k2c6 }
def k2c7 : Code := { maxStack := 4, maxLocals := 3, code := prog_25_method_13_code, exceptionTable := #[], attributes := #[] }
def k2m7 : Method := { name := "agree", desc := "([J)Z", sig := { parameters := [(.array .long)], returnType := some .boolean }, accessFlags := 0, code := some k2c7 }
def k2c8 : Code := { maxStack := 4, maxLocals := 3, code := prog_25_method_14_code, exceptionTable := #[], attributes := #[] }
def k2m8 : Method := { name := "noneLater", desc := "([J)Z", sig := { parameters := [(.array .long)], returnType := some .boolean }, accessFlags := 2, code := some k2c8 }
def k2c9 : Code := { maxStack := 5, maxLocals := 5, code := prog_25_method_15_code, exceptionTable := #[], attributes := #[] }
def k2m9 : Method := { name := "learn", desc := "([J)V", sig := { parameters := [(.array .long)], returnType := none }, accessFlags := 2, code := some k2c9 }
def k2c10 : Code := { maxStack := 4, maxLocals := 6, code := prog_25_method_16_code, exceptionTable := #[], attributes := #[] }
def k2m10 : Method := { name := "knowsEvery", desc := "()Z", sig := { parameters := [], returnType := some .boolean }, accessFlags := 2, code := some k2c10 }
/-- tidemark/io/Runs -/
def k2 : Class := { plain "tidemark/io/Runs" (some 0) with
  accessFlags := 48
  interfaces := #[]
  cf := some (fileOf pool2 17 #[] #[{ accessFlags := 0, nameIndex := 5, descriptorIndex := 127, attributes := #[] }, { accessFlags := 8, nameIndex := 34, descriptorIndex := 35, attributes := #[] }, { accessFlags := 10, nameIndex := 73, descriptorIndex := 74, attributes := #[] }, { accessFlags := 0, nameIndex := 81, descriptorIndex := 48, attributes := #[] }, { accessFlags := 0, nameIndex := 132, descriptorIndex := 133, attributes := #[] }, { accessFlags := 0, nameIndex := 134, descriptorIndex := 135, attributes := #[] }, { accessFlags := 0, nameIndex := 111, descriptorIndex := 112, attributes := #[] }, { accessFlags := 0, nameIndex := 100, descriptorIndex := 101, attributes := #[] }, { accessFlags := 2, nameIndex := 104, descriptorIndex := 101, attributes := #[] }, { accessFlags := 2, nameIndex := 107, descriptorIndex := 108, attributes := #[] }, { accessFlags := 2, nameIndex := 115, descriptorIndex := 116, attributes := #[] }] 48 2 #[] #[{ accessFlags := 26, nameIndex := 57, descriptorIndex := 58, attributes := #[] }, { accessFlags := 26, nameIndex := 124, descriptorIndex := 125, attributes := #[] }, { accessFlags := 18, nameIndex := 20, descriptorIndex := 21, attributes := #[] }, { accessFlags := 18, nameIndex := 24, descriptorIndex := 25, attributes := #[] }, { accessFlags := 18, nameIndex := 28, descriptorIndex := 25, attributes := #[] }, { accessFlags := 2, nameIndex := 31, descriptorIndex := 21, attributes := #[] }, { accessFlags := 18, nameIndex := 38, descriptorIndex := 25, attributes := #[] }, { accessFlags := 2, nameIndex := 97, descriptorIndex := 90, attributes := #[] }, { accessFlags := 2, nameIndex := 89, descriptorIndex := 90, attributes := #[] }])
  fields := #[{ name := "LAST", type := (.object "java/util/concurrent/atomic/AtomicLong"), accessFlags := 26, slot := 0, constantValue := 0 }, { name := "GAMMA", type := .long, accessFlags := 26, slot := 1, constantValue := 0 }, { name := "self", type := .int, accessFlags := 18, slot := 0, constantValue := 0 }, { name := "runs", type := (.array .long), accessFlags := 18, slot := 1, constantValue := 0 }, { name := "marks", type := (.array .long), accessFlags := 18, slot := 2, constantValue := 0 }, { name := "marked", type := .int, accessFlags := 2, slot := 3, constantValue := 0 }, { name := "heard", type := (.array .long), accessFlags := 18, slot := 4, constantValue := 0 }, { name := "chosen", type := .boolean, accessFlags := 2, slot := 5, constantValue := 0 }, { name := "preceded", type := .boolean, accessFlags := 2, slot := 6, constantValue := 0 }]
  methods := #[k2m0, k2m1, k2m2, k2m3, k2m4, k2m5, k2m6, k2m7, k2m8, k2m9, k2m10]
  instanceTypes := #[.int, (.array .long), (.array .long), .int, (.array .long), .boolean, .boolean]
  staticTypes := #[(.object "java/util/concurrent/atomic/AtomicLong"), .long]
  resolved := Array.replicate 167 none
  statics := none }

def pool3 : Array CpInfo := pool [(1, .class_ 2), (0, u "java/lang/Cloneable"), (0, .class_ 4), (0, u "java/lang/Object")] 2

/-- java/lang/Cloneable -/
def k3 : Class := { plain "java/lang/Cloneable" (some 0) with
  accessFlags := 1537
  interfaces := #[]
  cf := some (fileOf pool3 1 #[] #[] 1537 3 #[] #[])
  fields := #[]
  methods := #[]
  instanceTypes := #[]
  staticTypes := #[]
  resolved := Array.replicate 7 none
  statics := none }

def pool4 : Array CpInfo := pool [(1, u "java/io/Serializable"), (0, .class_ 1), (0, u "java/lang/Object"), (0, .class_ 3)] 3

/-- java/io/Serializable -/
def k4 : Class := { plain "java/io/Serializable" (some 0) with
  accessFlags := 1537
  interfaces := #[]
  cf := some (fileOf pool4 2 #[] #[] 1537 4 #[] #[])
  fields := #[]
  methods := #[]
  instanceTypes := #[]
  staticTypes := #[]
  resolved := Array.replicate 8 none
  statics := none }

/-- the primitive byte -/
def k5 : Class := { plain "byte" none with kind := .primitive 'B', accessFlags := 0x411 }
/-- [B -/
def k6 : Class := { plain "[B" (some 0) with kind := .array 5 .byte, interfaces := #[3, 4], accessFlags := 1041 }

/-- the primitive int -/
def k7 : Class := { plain "int" none with kind := .primitive 'I', accessFlags := 0x411 }
/-- [I -/
def k8 : Class := { plain "[I" (some 0) with kind := .array 7 .int, interfaces := #[3, 4], accessFlags := 1041 }

/-- the primitive long -/
def k9 : Class := { plain "long" none with kind := .primitive 'J', accessFlags := 0x411 }
/-- [J -/
def k10 : Class := { plain "[J" (some 0) with kind := .array 9 .long, interfaces := #[3, 4], accessFlags := 1041 }

def heap : Heap := #[]
def classes : Array Class := #[k0, k1, k2, k3, k4, k5, k6, k7, k8, k9, k10]
def interned : List (Array UInt16 × Addr) := []
def slotsUsed : Nat := 0
def theMethod : MethodId := ⟨1, 3⟩
def args0 : Array Value := #[.long 5, .long 6, .long 7, .long 8, .long 9, .long 10]
def aboutOver (below : List Frame) : State where
  vm := { classes := classes, interned := interned.toArray }
  heap := heap
  slotsUsed := slotsUsed
  threads := #[{ frames := .invoking theMethod args0 :: below }]
def below0 : List Frame := [.native { method := ⟨0, 0⟩, args := #[] }]
def about1 : State := aboutOver below0
def p0 : Program := .bare "" "" ""
def e0 : Env := launch0.env 0 0 0
theorem w_frames : about1.frames = Frame.invoking theMethod args0 :: below0 := rfl
set_option maxRecDepth 65536 in
theorem w_args : argsFit about1.vm theMethod args0 = true := by decide +kernel
set_option maxRecDepth 65536 in
theorem w_heap : heapFits about1 = true := by decide +kernel
set_option maxRecDepth 65536 in
theorem w_runnable : about1.curStatus? = some .runnable := by decide +kernel
set_option maxRecDepth 65536 in
theorem w_alone : about1.alone = true := by decide +kernel
set_option maxRecDepth 65536 in
theorem w_named : about1.methodNamed? x = some theMethod := by decide +kernel
set_option maxRecDepth 65536 in
theorem w_hears : about1.hears theMethod below0 = true := by decide +kernel
set_option maxRecDepth 65536 in
theorem w_ripe : about1.ripe theMethod args0 below0 = true := by decide +kernel
theorem w_running : about1.status = .running := rfl
set_option maxRecDepth 65536 in
theorem w_room : about1.hasRoom e0.platform room_1 = true :=
  launch0.hasRoom_least _ room_1 (by decide +kernel) (by decide +kernel) (by decide +kernel) (by decide +kernel) (by decide +kernel) (by decide +kernel)
theorem allAtoms_all (ts : List Jvm.Cond) (a : Array Jvm.Value) (st : Jvm.State) : (allAtoms ts).before a st = ts.all (fun c => c.before a st) := by
  induction ts with
  | nil => rfl
  | cons c t ih =>
    show (Jvm.Cond.and c (allAtoms t)).before a st = _
    rw [Jvm.Cond.before_and, ih, List.all_cons]
def words1 : List Jvm.Cond := Jvm.Cond.code x code maxLocals ret :: tables_1
/-- a 'code' word, met by the world's own term for the bytes: nothing is compared byte by byte -/
theorem code_word {y : MethodName} {bytes : ByteArray} {mx : Nat} {rt : Option FieldType} {a : Array Value} {s : State} {m : MethodId} {meth : Method} {c : Code} (h1 : s.methodNamed? y = some m) (h2 : s.vm.method? m = some meth) (h3 : meth.code = some c) (h4 : c.code = bytes)
    (h5 : (c.maxLocals == mx && c.exceptionTable.isEmpty && decide (c.maxStack ≤ mostOperands) && decide (meth.sig.returnType = rt) && !meth.locks && decide (parseMethodDescriptor y.desc = some meth.sig)) = true) : (Jvm.Cond.code y bytes mx rt).before a s = true := by
  simp only [Bool.and_eq_true, beq_iff_eq, Bool.not_eq_true', decide_eq_true_eq] at h5
  obtain ⟨⟨⟨⟨⟨g1, g2⟩, g3⟩, g4⟩, g5⟩, g6⟩ := h5
  simp [Cond.before, Cond.holds, Cond.value, h1, h2, h3, h4, g1, g2, g3, g4, g5, g6]
def isCode : Jvm.Cond → Bool
  | .code _ _ _ _ => true
  | _ => false
theorem all_split {L : List Jvm.Cond} {P : Jvm.Cond → Bool} (h1 : L.all (fun c => isCode c || P c) = true) (h2 : ∀ c ∈ L.filter isCode, P c = true) : L.all P = true := by
  refine List.all_eq_true.mpr fun c hc => ?_
  have h := List.all_eq_true.mp h1 c hc
  rcases Bool.eq_false_or_eq_true (isCode c) with hi | hi
  · exact h2 c (List.mem_filter.mpr ⟨hc, hi⟩)
  · simpa [hi] using h
set_option maxRecDepth 65536 in
theorem w_c0 : (Jvm.Cond.code x code maxLocals ret).before args0 about1 = true := code_word (m := ⟨1, 3⟩) (meth := k1m3) (c := k1c3) (by decide +kernel) rfl rfl rfl (by decide +kernel)
set_option maxRecDepth 65536 in
theorem w_c1 : (Jvm.Cond.code ({ cls := "tidemark/io/RunsAgreePinLaw", name := "pick", desc := "(JJ)J" } : Jvm.MethodName) method_2_code (6 : Nat) (Option.some Jvm.ClassFile.FieldType.long)).before args0 about1 = true := code_word (m := ⟨1, 1⟩) (meth := k1m1) (c := k1c1) (by decide +kernel) rfl rfl rfl (by decide +kernel)
set_option maxRecDepth 65536 in
theorem w_c2 : (Jvm.Cond.code ({ cls := "tidemark/io/Runs", name := "<init>", desc := "(IIJ)V" } : Jvm.MethodName) prog_25_method_1_code (5 : Nat) (Option.none : Option Jvm.ClassFile.FieldType)).before args0 about1 = true := code_word (m := ⟨2, 0⟩) (meth := k2m0) (c := k2c0) (by decide +kernel) rfl rfl rfl (by decide +kernel)
set_option maxRecDepth 65536 in
theorem w_c3 : (Jvm.Cond.code ({ cls := "java/lang/Object", name := "<init>", desc := "()V" } : Jvm.MethodName) object_method_1_code (1 : Nat) (Option.none : Option Jvm.ClassFile.FieldType)).before args0 about1 = true := code_word (m := ⟨0, 0⟩) (meth := k0m0) (c := k0c0) (by decide +kernel) rfl rfl rfl (by decide +kernel)
set_option maxRecDepth 65536 in
theorem w_c4 : (Jvm.Cond.code ({ cls := "tidemark/io/Runs", name := "markOf", desc := "([J)J" } : Jvm.MethodName) prog_25_method_3_code (8 : Nat) (Option.some Jvm.ClassFile.FieldType.long)).before args0 about1 = true := code_word (m := ⟨2, 1⟩) (meth := k2m1) (c := k2c1) (by decide +kernel) rfl rfl rfl (by decide +kernel)
set_option maxRecDepth 65536 in
theorem w_c5 : (Jvm.Cond.code ({ cls := "tidemark/io/Runs", name := "stirred", desc := "(J)J" } : Jvm.MethodName) prog_25_method_4_code (4 : Nat) (Option.some Jvm.ClassFile.FieldType.long)).before args0 about1 = true := code_word (m := ⟨2, 2⟩) (meth := k2m2) (c := k2c2) (by decide +kernel) rfl rfl rfl (by decide +kernel)
set_option maxRecDepth 65536 in
theorem w_c6 : (Jvm.Cond.code ({ cls := "tidemark/io/Runs", name := "admit", desc := "(IJ[J)Z" } : Jvm.MethodName) prog_25_method_7_code (6 : Nat) (Option.some Jvm.ClassFile.FieldType.boolean)).before args0 about1 = true := code_word (m := ⟨2, 5⟩) (meth := k2m5) (c := k2c5) (by decide +kernel) rfl rfl rfl (by decide +kernel)
set_option maxRecDepth 65536 in
theorem w_c7 : (Jvm.Cond.code ({ cls := "tidemark/io/Runs", name := "noneLater", desc := "([J)Z" } : Jvm.MethodName) prog_25_method_14_code (3 : Nat) (Option.some Jvm.ClassFile.FieldType.boolean)).before args0 about1 = true := code_word (m := ⟨2, 8⟩) (meth := k2m8) (c := k2c8) (by decide +kernel) rfl rfl rfl (by decide +kernel)
set_option maxRecDepth 65536 in
theorem w_c8 : (Jvm.Cond.code ({ cls := "tidemark/io/Runs", name := "learn", desc := "([J)V" } : Jvm.MethodName) prog_25_method_15_code (5 : Nat) (Option.none : Option Jvm.ClassFile.FieldType)).before args0 about1 = true := code_word (m := ⟨2, 9⟩) (meth := k2m9) (c := k2c9) (by decide +kernel) rfl rfl rfl (by decide +kernel)
set_option maxRecDepth 65536 in
theorem w_c9 : (Jvm.Cond.code ({ cls := "tidemark/io/Runs", name := "knowsEvery", desc := "()Z" } : Jvm.MethodName) prog_25_method_16_code (6 : Nat) (Option.some Jvm.ClassFile.FieldType.boolean)).before args0 about1 = true := code_word (m := ⟨2, 10⟩) (meth := k2m10) (c := k2c10) (by decide +kernel) rfl rfl rfl (by decide +kernel)
set_option maxRecDepth 65536 in
theorem w_c10 : (Jvm.Cond.code ({ cls := "tidemark/io/Runs", name := "noteMark", desc := "(IJ)V" } : Jvm.MethodName) prog_25_method_8_code (4 : Nat) (Option.none : Option Jvm.ClassFile.FieldType)).before args0 about1 = true := code_word (m := ⟨2, 6⟩) (meth := k2m6) (c := k2c6) (by decide +kernel) rfl rfl rfl (by decide +kernel)
set_option maxRecDepth 65536 in
theorem w_c11 : (Jvm.Cond.code ({ cls := "tidemark/io/Runs", name := "agree", desc := "([J)Z" } : Jvm.MethodName) prog_25_method_13_code (3 : Nat) (Option.some Jvm.ClassFile.FieldType.boolean)).before args0 about1 = true := code_word (m := ⟨2, 7⟩) (meth := k2m7) (c := k2c7) (by decide +kernel) rfl rfl rfl (by decide +kernel)
set_option maxRecDepth 65536 in
theorem w_c12 : (Jvm.Cond.code ({ cls := "tidemark/io/Runs", name := "toTell", desc := "(I)[J" } : Jvm.MethodName) prog_25_method_6_code (2 : Nat) (Option.some (Jvm.ClassFile.FieldType.array Jvm.ClassFile.FieldType.long))).before args0 about1 = true := code_word (m := ⟨2, 4⟩) (meth := k2m4) (c := k2c4) (by decide +kernel) rfl rfl rfl (by decide +kernel)
set_option maxRecDepth 65536 in
theorem w_c13 : (Jvm.Cond.code ({ cls := "tidemark/io/Runs", name := "mark", desc := "()J" } : Jvm.MethodName) prog_25_method_5_code (1 : Nat) (Option.some Jvm.ClassFile.FieldType.long)).before args0 about1 = true := code_word (m := ⟨2, 3⟩) (meth := k2m3) (c := k2c3) (by decide +kernel) rfl rfl rfl (by decide +kernel)
set_option maxRecDepth 65536 in
theorem w_c14 : (Jvm.Cond.code ({ cls := "tidemark/io/RunsAgreePinLaw", name := "ok", desc := "(JJ)Z" } : Jvm.MethodName) method_3_code (4 : Nat) (Option.some Jvm.ClassFile.FieldType.boolean)).before args0 about1 = true := code_word (m := ⟨1, 2⟩) (meth := k1m2) (c := k1c2) (by decide +kernel) rfl rfl rfl (by decide +kernel)
def codes1 : List Jvm.Cond := [Jvm.Cond.code x code maxLocals ret, Jvm.Cond.code ({ cls := "tidemark/io/RunsAgreePinLaw", name := "pick", desc := "(JJ)J" } : Jvm.MethodName) method_2_code (6 : Nat) (Option.some Jvm.ClassFile.FieldType.long), Jvm.Cond.code ({ cls := "tidemark/io/Runs", name := "<init>", desc := "(IIJ)V" } : Jvm.MethodName) prog_25_method_1_code (5 : Nat) (Option.none : Option Jvm.ClassFile.FieldType), Jvm.Cond.code ({ cls := "java/lang/Object", name := "<init>", desc := "()V" } : Jvm.MethodName) object_method_1_code (1 : Nat) (Option.none : Option Jvm.ClassFile.FieldType), Jvm.Cond.code ({ cls := "tidemark/io/Runs", name := "markOf", desc := "([J)J" } : Jvm.MethodName) prog_25_method_3_code (8 : Nat) (Option.some Jvm.ClassFile.FieldType.long), Jvm.Cond.code ({ cls := "tidemark/io/Runs", name := "stirred", desc := "(J)J" } : Jvm.MethodName) prog_25_method_4_code (4 : Nat) (Option.some Jvm.ClassFile.FieldType.long), Jvm.Cond.code ({ cls := "tidemark/io/Runs", name := "admit", desc := "(IJ[J)Z" } : Jvm.MethodName) prog_25_method_7_code (6 : Nat) (Option.some Jvm.ClassFile.FieldType.boolean), Jvm.Cond.code ({ cls := "tidemark/io/Runs", name := "noneLater", desc := "([J)Z" } : Jvm.MethodName) prog_25_method_14_code (3 : Nat) (Option.some Jvm.ClassFile.FieldType.boolean), Jvm.Cond.code ({ cls := "tidemark/io/Runs", name := "learn", desc := "([J)V" } : Jvm.MethodName) prog_25_method_15_code (5 : Nat) (Option.none : Option Jvm.ClassFile.FieldType), Jvm.Cond.code ({ cls := "tidemark/io/Runs", name := "knowsEvery", desc := "()Z" } : Jvm.MethodName) prog_25_method_16_code (6 : Nat) (Option.some Jvm.ClassFile.FieldType.boolean), Jvm.Cond.code ({ cls := "tidemark/io/Runs", name := "noteMark", desc := "(IJ)V" } : Jvm.MethodName) prog_25_method_8_code (4 : Nat) (Option.none : Option Jvm.ClassFile.FieldType), Jvm.Cond.code ({ cls := "tidemark/io/Runs", name := "agree", desc := "([J)Z" } : Jvm.MethodName) prog_25_method_13_code (3 : Nat) (Option.some Jvm.ClassFile.FieldType.boolean), Jvm.Cond.code ({ cls := "tidemark/io/Runs", name := "toTell", desc := "(I)[J" } : Jvm.MethodName) prog_25_method_6_code (2 : Nat) (Option.some (Jvm.ClassFile.FieldType.array Jvm.ClassFile.FieldType.long)), Jvm.Cond.code ({ cls := "tidemark/io/Runs", name := "mark", desc := "()J" } : Jvm.MethodName) prog_25_method_5_code (1 : Nat) (Option.some Jvm.ClassFile.FieldType.long), Jvm.Cond.code ({ cls := "tidemark/io/RunsAgreePinLaw", name := "ok", desc := "(JJ)Z" } : Jvm.MethodName) method_3_code (4 : Nat) (Option.some Jvm.ClassFile.FieldType.boolean)]
set_option maxRecDepth 65536 in
theorem codes_eq : words1.filter isCode = codes1 := rfl
theorem w_codes : ∀ c ∈ words1.filter isCode, c.before args0 about1 = true := by
  rw [codes_eq]
  intro c hc
  simp only [codes1, List.mem_cons, List.not_mem_nil, or_false] at hc
  rcases hc with rfl | rfl | rfl | rfl | rfl | rfl | rfl | rfl | rfl | rfl | rfl | rfl | rfl | rfl | rfl
  · exact w_c0
  · exact w_c1
  · exact w_c2
  · exact w_c3
  · exact w_c4
  · exact w_c5
  · exact w_c6
  · exact w_c7
  · exact w_c8
  · exact w_c9
  · exact w_c10
  · exact w_c11
  · exact w_c12
  · exact w_c13
  · exact w_c14
set_option maxRecDepth 65536 in
theorem w_t1 : (words1.take 24).all (fun c => isCode c || c.before args0 about1) = true := by decide +kernel
set_option maxRecDepth 65536 in
theorem w_t2 : ((words1.drop 24).take 24).all (fun c => isCode c || c.before args0 about1) = true := by decide +kernel
set_option maxRecDepth 65536 in
theorem w_t3 : (((words1.drop 24).drop 24).take 24).all (fun c => isCode c || c.before args0 about1) = true := by decide +kernel
set_option maxRecDepth 65536 in
theorem w_t4 : (((words1.drop 24).drop 24).drop 24).all (fun c => isCode c || c.before args0 about1) = true := by decide +kernel
theorem w_tables : (allAtoms (Jvm.Cond.code x code maxLocals ret :: tables_1)).before args0 about1 = true := by
  rw [allAtoms_all]
  show words1.all (fun c => c.before args0 about1) = true
  refine all_split ?_ w_codes
  rw [← List.take_append_drop 24 words1, List.all_append, w_t1, ← List.take_append_drop 24 (words1.drop 24), List.all_append, w_t2, ← List.take_append_drop 24 ((words1.drop 24).drop 24), List.all_append, w_t3, w_t4]
  rfl
set_option maxRecDepth 65536 in
theorem w_case : (Jvm.Cond.and given_1 narrow_1).before args0 about1 = true := by decide +kernel
theorem w_applies : (headSpec (Jvm.Cond.code x code maxLocals ret :: tables_1) room_1).applies x e0.platform about1 = true :=
  (Spec.applies_iff w_frames).mpr ⟨w_running, w_runnable, w_alone, w_named, w_hears, w_ripe, w_room, w_tables⟩
theorem atStart : AtStart classFile x code maxLocals ret World_1 tables_1 room_1 Calls_1 rest_1 Pre_1 launch0 p0 e0 about1 theMethod args0 below0 :=
  ⟨lists_1, trivial, launch0.admits_env _ _ _, launch0.least_env, fairChoices_fair.cas, fairChoices_fair.clock, w_frames, w_args, w_heap, w_applies, trivial, trivial, w_case⟩
end start1
theorem witness_1 : WitnessClaimed_1 := ⟨start1.p0, start1.e0, start1.about1, start1.theMethod, start1.args0, start1.below0, start1.atStart⟩
end Jvm.Pilot.@@N@@
