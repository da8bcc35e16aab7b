import JvmDerived
import JvmDerived.Pilot.@@N@@Statement
import JvmDerived.Pilot.@@N@@Code
set_option linter.unusedVariables false
set_option linter.unusedSimpArgs false
namespace Jvm.Pilot.@@N@@
open Jvm Jvm.ClassFile Sem Op Lib Jvm.Free Jvm.Stand Jvm.LawKit Jvm.RoadKit Bundle Jvm.Pilot.@@N@@.Jvm.D
section OwnKit
variable {p : Program} {l : Launch} {e : Env} {R : Room} {s : State} {m : MethodId} {args : Array Value} {below : List Frame} {meth : Method} {c : Code} {T : State} {locs : List Loc} {cells slots : Nat} {Z : State} {a0 : Array Value} {h h' h0 : Heap}
/-- the rest of the body's run, from A on: it ends, and E holds there -/
def own_Go (p : Program) (e : Env) (below : List Frame) (E : Outcome → State → Prop) (A : State) : Prop :=
  ∃ s₂ o, Steps p.tables e below A s₂ ∧ s₂.status = .running ∧ Ended s₂ below o ∧ E o s₂
theorem own_go {E : Outcome → State → Prop} {A B : State} (k : ∀ t, Steps p.tables e below A t → Steps p.tables e below B t) (g : own_Go p e below E A) : own_Go p e below E B := by
  obtain ⟨s₂, o, h1, h2⟩ := g
  exact ⟨s₂, o, k _ h1, h2⟩
theorem own_goT {E : Outcome → State → Prop} {A B : State} (k : Steps p.tables e below B A) (g : own_Go p e below E A) : own_Go p e below E B := own_go (fun _ q => k.trans q) g
/-- what a body leaves -/
def own_Out (s : State) (Q : Option Value → Heap → List Loc → Prop) (C S : Nat) (o : Outcome) (U : State) : Prop :=
  ∃ v L, o = .returned v ∧ Q v U.heap L ∧ FrameEnd s o U L C S
/-- a body's contract: called with as' over the heap h0 it returns, and Q holds of what it returns, of the heap that it leaves and of the places that it wrote -/
def own_Con (l : Launch) (Z : State) (y : MethodName) (bytes : ByteArray) (maxL : Nat) (ret : Option FieldType) (rm : Room) (as' : Array Value) (h0 : Heap) (Q : Option Value → Heap → List Loc → Prop) (ws : List Jvm.Cond) : Prop :=
  MetFree l y (head1 (Jvm.Cond.code y bytes maxL ret :: ws) rm) (fun a U => a = as' ∧ Z.Warmed39 U.vm ∧ U.heap = h0) (fun _ _ _ _ _ => True) (fun _ U o U' => ∃ v L, o = .returned v ∧ Q v U'.heap L ∧ FrameEnd U o U' L rm.cells rm.slots)
theorem own_con {y : MethodName} {bytes : ByteArray} {maxL : Nat} {ret : Option FieldType} {rm : Room} {as' : Array Value} {Q : Option Value → Heap → List Loc → Prop} {ws : List Jvm.Cond} {F : MethodId → JFrame} (hpn : plainFor y = true) (hef : ∀ m, entryFrame m as' maxL = F m)
    (H : ∀ (p : Program) (e : Env) (s : State) (m : MethodId) (below : List Frame) (meth : Method) (c : Code) (T : State), Stand p l e rm s m as' below meth c T [] 0 0 → p.tables.exec = Jvm.exec → c.code = bytes → c.maxLocals = maxL → Z.Warmed39 s.vm → s.vm.findClass y.cls = some m.cls → meth.name = y.name →
      meth.sig.returnType = ret → meth.locks = false → T.heap = h0 → own_Go p e below (own_Out s Q rm.cells rm.slots) (T.setTop (F m))) :
    own_Con l Z y bytes maxL ret rm as' h0 Q ws := by
  refine MetFree.of_bodySF hpn hisR ?_
  intro p e s m args below meth c s₁ Bd hml0 hP hK
  obtain ⟨rfl, hZ, hh⟩ := hP
  have k := H p e s m below meth c s₁ (Stand.of_body Bd) Bd.exec Bd.bytes hml0 hZ (findClass_of_methodNamed Bd.named) (name_of_methodNamed Bd.named Bd.method).1 Bd.returns Bd.notSynchronized (by rw [← hh, Bd.state]; rfl)
  rw [← hef m] at k
  exact k
theorem own_Con.mono {y : MethodName} {bytes : ByteArray} {maxL : Nat} {ret : Option FieldType} {rm : Room} {as' : Array Value} {Q Q' : Option Value → Heap → List Loc → Prop} {ws : List Jvm.Cond} (H : own_Con l Z y bytes maxL ret rm as' h0 Q ws) (k : ∀ v h L, Q v h L → Q' v h L) : own_Con l Z y bytes maxL ret rm as' h0 Q' ws := by
  intro p e ha hc hk s m args below hf happ hP hK
  obtain ⟨n, o, g1, g2, g3, v, L, g4, g5, g6⟩ := H p e ha hc hk s m args below hf happ hP hK
  exact ⟨n, o, g1, g2, g3, v, L, g4, k _ _ _ g5, g6⟩
/-! leaving -/
theorem own_iret (X : Stand p l e R s m args below meth c T locs cells slots) (hx : p.tables.exec = Jvm.exec) (hlk : meth.locks = false) {t : FieldType} (hret : meth.sig.returnType = some t) (hti : t = .int ∨ t = .boolean ∨ t = .byte ∨ t = .char ∨ t = .short) {pc : Nat} {Ls : Array Slot} {z : Int32} (hn : narrow t (.int z) = .int z)
    (hd : decode c.code pc = .ok (.ireturn, 1)) {Q : Option Value → Heap → List Loc → Prop} {C S : Nat} (hC : cells ≤ C) (hS : slots ≤ S) (hq : Q (some (.int z)) T.heap locs) : own_Go p e below (own_Out s Q C S) (T.setTop (mkF m pc Ls [.int z])) := by
  obtain ⟨fs, hr, hrun, hended, hW, hsame⟩ := X.leave (v := some (.int z)) (fun h => by rw [hret] at h; cases h)
  exact ⟨_, _, X.ireturnOut hx hret hn hti hd hr, hrun, hended, _, _, rfl, hq, ⟨_, rfl⟩, hW, hsame.mono hC hS⟩
theorem own_lret (X : Stand p l e R s m args below meth c T locs cells slots) (hx : p.tables.exec = Jvm.exec) (hlk : meth.locks = false) (hret : meth.sig.returnType = some .long) {pc : Nat} {Ls : Array Slot} {z : Int64}
    (hd : decode c.code pc = .ok (.lreturn, 1)) {Q : Option Value → Heap → List Loc → Prop} {C S : Nat} (hC : cells ≤ C) (hS : slots ≤ S) (hq : Q (some (.long z)) T.heap locs) : own_Go p e below (own_Out s Q C S) (T.setTop (mkF m pc Ls [.long z])) := by
  obtain ⟨fs, hr, hrun, hended, hW, hsame⟩ := X.leave (v := some (.long z)) (fun h => by rw [hret] at h; cases h)
  exact ⟨_, _, X.lreturnOut hx hret hd hr, hrun, hended, _, _, rfl, hq, ⟨_, rfl⟩, hW, hsame.mono hC hS⟩
theorem own_aret (X : Stand p l e R s m args below meth c T locs cells slots) (hx : p.tables.exec = Jvm.exec) (hlk : meth.locks = false) {t : FieldType} (hret : meth.sig.returnType = some t) (ht : t.isReference = true) {pc : Nat} {Ls : Array Slot} {w : Value} (hw : w.isRef = true)
    (hd : decode c.code pc = .ok (.areturn, 1)) {Q : Option Value → Heap → List Loc → Prop} {C S : Nat} (hC : cells ≤ C) (hS : slots ≤ S) (hq : Q (some w) T.heap locs) : own_Go p e below (own_Out s Q C S) (T.setTop (mkF m pc Ls [w])) := by
  obtain ⟨fs, hr, hrun, hended, hW, hsame⟩ := X.leave (v := some w) (fun h => by rw [hret] at h; cases h)
  exact ⟨_, _, X.areturnOut hx hw hret ht hd hr, hrun, hended, _, _, rfl, hq, ⟨_, rfl⟩, hW, hsame.mono hC hS⟩
theorem own_vret (X : Stand p l e R s m args below meth c T locs cells slots) (hx : p.tables.exec = Jvm.exec) (hlk : meth.locks = false) (hret : meth.sig.returnType = none) {pc : Nat} {Ls : Array Slot}
    (hd : decode c.code pc = .ok (.return_, 1)) {Q : Option Value → Heap → List Loc → Prop} {C S : Nat} (hC : cells ≤ C) (hS : slots ≤ S) (hq : Q none T.heap locs) : own_Go p e below (own_Out s Q C S) (T.setTop (mkF m pc Ls [])) := by
  obtain ⟨fs, hr, hrun, hended, hW, hsame⟩ := X.leave (v := none) (fun _ => rfl)
  exact ⟨_, _, X.returnOut hx hret hd hr, hrun, hended, _, _, rfl, hq, ⟨_, rfl⟩, hW, hsame.mono hC hS⟩
/-! a body that leaves the heap alone -/
def own_PQ (h0 : Heap) (w : Value) (v : Option Value) (h : Heap) (L : List Loc) : Prop := v = some w ∧ h = h0 ∧ L = []
theorem own_iteI {C : Prop} [Decidable C] {a b : Int32} {k n : Nat} {A : State} (h1 : C → own_Go p e below (own_Out s (own_PQ h0 (.int a)) k n) A) (h2 : ¬ C → own_Go p e below (own_Out s (own_PQ h0 (.int b)) k n) A) : own_Go p e below (own_Out s (own_PQ h0 (.int (if C then a else b))) k n) A := by
  by_cases q : C
  · rw [if_pos q]; exact h1 q
  · rw [if_neg q]; exact h2 q
theorem own_iteL {C : Prop} [Decidable C] {a b : Int64} {k n : Nat} {A : State} (h1 : C → own_Go p e below (own_Out s (own_PQ h0 (.long a)) k n) A) (h2 : ¬ C → own_Go p e below (own_Out s (own_PQ h0 (.long b)) k n) A) : own_Go p e below (own_Out s (own_PQ h0 (.long (if C then a else b))) k n) A := by
  by_cases q : C
  · rw [if_pos q]; exact h1 q
  · rw [if_neg q]; exact h2 q
/-! calls -/
theorem own_callS (X : Stand p l e R s m args below meth c T locs cells slots) (hx : p.tables.exec = Jvm.exec) (hZ : Z.Warmed39 s.vm) {own : String} (hown : s.vm.findClass own = some m.cls) {index : Nat} {y : MethodName} {bytes : ByteArray} {maxL : Nat} {ret : Option FieldType} {rm : Room} {argsL rest : List Value} {Q : Option Value → Heap → List Loc → Prop}
    (hM : own_Con l Z y bytes maxL ret rm argsL.toArray h Q []) (eT : T.heap = h) (wl : (Jvm.Cond.methodLink own index y).before a0 Z = true) (wst : (Jvm.Cond.static y).before a0 Z = true) (wz : (Jvm.Cond.initialized y.cls).before a0 Z = true) (wc : (Jvm.Cond.code y bytes maxL ret).before a0 Z = true) (hy : y.cls ≠ "java/lang/invoke/MethodHandle" ∧ y.cls ≠ "java/lang/invoke/VarHandle")
    {sig : MethodDescriptor} (hpd : parseMethodDescriptor y.desc = some sig) (hlen : argsL.length = sig.parameters.length) {g : JFrame} (hg : g.method = m) (hsize : g.locals.size = c.maxLocals) (hstack : g.stack = argsL.reverse ++ rest) (W : Nat) (hW : 2 * g.monitorRoom + (rest.map fun v => v.category).sum ≤ W) (hdg : decode c.code g.pc = .ok (.invokestatic index, 3))
    (hf : rm.frames + 1 ≤ R.frames) (hl : W + (maxL + 11) + rm.locals ≤ R.locals) (hcs : cells + rm.cells ≤ R.cells) (hss : slots + rm.slots ≤ R.slots) :
    ∃ (v : Option Value) (T' : State) (L : List Loc), Stand p l e R s m args below meth c T' (locs ++ L) (cells + rm.cells) (slots + rm.slots) ∧ Q v T'.heap L ∧ ∀ t, Steps p.tables e below (T'.setTop { g with pc := g.pc + 3, stack := v.toList ++ rest }) t → Steps p.tables e below (T.setTop g) t := by
  obtain ⟨v, _, ⟨T', L', k', n'⟩, -, X', ⟨L, hQ, q1, q2, q3⟩, st⟩ := Jvm.LawKit.callS X hx hown (mvT hZ wl) (mvT hZ wst) (mvT hZ wz) (mvT hZ wc) hy (backOf (W := W) hM hZ wc wz hf hl) hg hsize (argsL := argsL) (rest := rest) (fun sg hsg => by rw [hpd] at hsg; cases hsg; exact hlen) hstack hW hdg (fun _ _ => ⟨rfl, eT, hcs, hss⟩)
  dsimp only [Pt.U, Pt.locs, Pt.cells, Pt.slots] at X' q1 q2 q3 st hQ
  subst q1 q2 q3
  exact ⟨v, T', L, X', hQ, st⟩
theorem own_callSP (X : Stand p l e R s m args below meth c T locs cells slots) (hx : p.tables.exec = Jvm.exec) (hZ : Z.Warmed39 s.vm) {own : String} (hown : s.vm.findClass own = some m.cls) {index : Nat} {y : MethodName} {bytes : ByteArray} {maxL : Nat} {ret : Option FieldType} {rm : Room} {argsL rest : List Value} {w : Value}
    (hM : own_Con l Z y bytes maxL ret rm argsL.toArray h (own_PQ h w) []) (eT : T.heap = h) (wl : (Jvm.Cond.methodLink own index y).before a0 Z = true) (wst : (Jvm.Cond.static y).before a0 Z = true) (wz : (Jvm.Cond.initialized y.cls).before a0 Z = true) (wc : (Jvm.Cond.code y bytes maxL ret).before a0 Z = true) (hy : y.cls ≠ "java/lang/invoke/MethodHandle" ∧ y.cls ≠ "java/lang/invoke/VarHandle")
    {sig : MethodDescriptor} (hpd : parseMethodDescriptor y.desc = some sig) (hlen : argsL.length = sig.parameters.length) {g : JFrame} (hg : g.method = m) (hsize : g.locals.size = c.maxLocals) (hstack : g.stack = argsL.reverse ++ rest) (W : Nat) (hW : 2 * g.monitorRoom + (rest.map fun v => v.category).sum ≤ W) (hdg : decode c.code g.pc = .ok (.invokestatic index, 3))
    (hf : rm.frames + 1 ≤ R.frames) (hl : W + (maxL + 11) + rm.locals ≤ R.locals) (hrc : rm.cells = 0) (hrs : rm.slots = 0) (hcs : cells ≤ R.cells) (hss : slots ≤ R.slots) :
    ∃ (T' : State), Stand p l e R s m args below meth c T' locs cells slots ∧ T'.heap = h ∧ ∀ t, Steps p.tables e below (T'.setTop { g with pc := g.pc + 3, stack := w :: rest }) t → Steps p.tables e below (T.setTop g) t := by
  obtain ⟨v, T', L, X', ⟨rfl, q2, rfl⟩, st⟩ := own_callS X hx hZ hown hM eT wl wst wz wc hy hpd hlen hg hsize hstack W hW hdg hf hl (by omega) (by omega)
  rw [List.append_nil, hrc, hrs] at X'
  exact ⟨T', X', q2, st⟩
theorem own_callI (X : Stand p l e R s m args below meth c T locs cells slots) (hx : p.tables.exec = Jvm.exec) (hZ : Z.Warmed39 s.vm) {own : String} (hown : s.vm.findClass own = some m.cls) {index : Nat} {y : MethodName} (hy1 : y.name = "<init>") {bytes : ByteArray} {maxL : Nat} {rm : Room} {b : Addr} {argsL rest : List Value} {Q : Option Value → Heap → List Loc → Prop}
    (hM : own_Con l Z y bytes maxL none rm (Value.ref b :: argsL).toArray h Q []) (eT : T.heap = h) (wl : (Jvm.Cond.methodLink own index y).before a0 Z = true) (wi : (Jvm.Cond.instanceMethod y).before a0 Z = true) (wz : (Jvm.Cond.initialized y.cls).before a0 Z = true) (wc : (Jvm.Cond.code y bytes maxL none).before a0 Z = true) (hy : y.cls ≠ "java/lang/invoke/MethodHandle" ∧ y.cls ≠ "java/lang/invoke/VarHandle")
    {sig : MethodDescriptor} (hpd : parseMethodDescriptor y.desc = some sig) (hlen : argsL.length = sig.parameters.length) {g : JFrame} (hg : g.method = m) (hsize : g.locals.size = c.maxLocals) (hstack : g.stack = argsL.reverse ++ .ref b :: rest) (W : Nat) (hW : 2 * g.monitorRoom + (rest.map fun v => v.category).sum ≤ W) (hdg : decode c.code g.pc = .ok (.invokespecial index, 3))
    (hf : rm.frames + 1 ≤ R.frames) (hl : W + (maxL + 11) + rm.locals ≤ R.locals) (hcs : cells + rm.cells ≤ R.cells) (hss : slots + rm.slots ≤ R.slots) :
    ∃ (v : Option Value) (T' : State) (L : List Loc), Stand p l e R s m args below meth c T' (locs ++ L) (cells + rm.cells) (slots + rm.slots) ∧ Q v T'.heap L ∧ ∀ t, Steps p.tables e below (T'.setTop { g with pc := g.pc + 3, stack := v.toList ++ rest }) t → Steps p.tables e below (T.setTop g) t := by
  obtain ⟨v, _, ⟨T', L', k', n'⟩, -, X', ⟨L, hQ, q1, q2, q3⟩, st⟩ := X.specialBack hx hy1 hown (mvT hZ wl) (mvT hZ wi) (mvT hZ wc) hy (backOf (W := W) hM hZ wc wz hf hl) hg hsize (Steps.refl _) (a := b) (argsL := argsL) (rest := rest) (fun sg hsg => by rw [hpd] at hsg; cases hsg; exact hlen) hstack hW hdg (fun _ _ => ⟨rfl, eT, hcs, hss⟩)
  dsimp only [Pt.U, Pt.locs, Pt.cells, Pt.slots] at X' q1 q2 q3 st hQ
  subst q1 q2 q3
  exact ⟨v, T', L, X', hQ, fun _ k => st.trans k⟩
theorem own_callV (X : Stand p l e R s m args below meth c T locs cells slots) (hx : p.tables.exec = Jvm.exec) (hZ : Z.Warmed39 s.vm) {own C : String} (hown : s.vm.findClass own = some m.cls) {index : Nat} {y z : MethodName} {bytes : ByteArray} {maxL : Nat} {ret : Option FieldType} {rm : Room} {b : Addr} {argsL rest : List Value} {Q : Option Value → Heap → List Loc → Prop}
    (hM : own_Con l Z z bytes maxL ret rm (Value.ref b :: argsL).toArray h Q []) (eT : T.heap = h) (hE : Exa Z h b C) (wl : (Jvm.Cond.methodLink own index y).before a0 Z = true) (wd : (Jvm.Cond.declares y).before a0 Z = true) (wsel : (Jvm.Cond.selects C y z).before a0 Z = true) (wi : (Jvm.Cond.instanceMethod z).before a0 Z = true) (wz : (Jvm.Cond.initialized z.cls).before a0 Z = true) (wc : (Jvm.Cond.code z bytes maxL ret).before a0 Z = true) (hnf : NotFace s y) (hy : y.cls ≠ "java/lang/invoke/MethodHandle" ∧ y.cls ≠ "java/lang/invoke/VarHandle")
    {sig : MethodDescriptor} (hpd : parseMethodDescriptor y.desc = some sig) (hlen : argsL.length = sig.parameters.length) {g : JFrame} (hg : g.method = m) (hsize : g.locals.size = c.maxLocals) (hstack : g.stack = argsL.reverse ++ .ref b :: rest) (W : Nat) (hW : 2 * g.monitorRoom + (rest.map fun v => v.category).sum ≤ W) (hdg : decode c.code g.pc = .ok (.invokevirtual index, 3))
    (hf : rm.frames + 1 ≤ R.frames) (hl : W + (maxL + 11) + rm.locals ≤ R.locals) (hcs : cells + rm.cells ≤ R.cells) (hss : slots + rm.slots ≤ R.slots) :
    ∃ (v : Option Value) (T' : State) (L : List Loc), Stand p l e R s m args below meth c T' (locs ++ L) (cells + rm.cells) (slots + rm.slots) ∧ Q v T'.heap L ∧ ∀ t, Steps p.tables e below (T'.setTop { g with pc := g.pc + 3, stack := v.toList ++ rest }) t → Steps p.tables e below (T.setTop g) t := by
  obtain ⟨cq, kq, qa, qb, qc⟩ := isOf hZ eT hE
  obtain ⟨v, _, ⟨T', L', k', n'⟩, -, X', ⟨L, hQ, q1, q2, q3⟩, st⟩ := X.virtualBack hx hown (mvT hZ wl) (mvT hZ wd) hnf (mvT hZ wsel) (mvT hZ wi) hy (backOf (W := W) hM hZ wc wz hf hl) qa qc hg hsize (Steps.refl _) (argsL := argsL) (rest := rest) (fun sg hsg => by rw [hpd] at hsg; cases hsg; exact hlen) hstack hW hdg (fun _ _ => ⟨rfl, eT, hcs, hss⟩)
  dsimp only [Pt.U, Pt.locs, Pt.cells, Pt.slots] at X' q1 q2 q3 st hQ
  subst q1 q2 q3
  exact ⟨v, T', L, X', hQ, fun _ k => st.trans k⟩
theorem own_callP (X : Stand p l e R s m args below meth c T locs cells slots) (hx : p.tables.exec = Jvm.exec) (hZ : Z.Warmed39 s.vm) {own C : String} (hown : s.vm.findClass own = some m.cls) {index kk : Nat} {y : MethodName} {bytes : ByteArray} {maxL : Nat} {ret : Option FieldType} {rm : Room} {b : Addr} {argsL rest : List Value} {Q : Option Value → Heap → List Loc → Prop}
    (hM : own_Con l Z y bytes maxL ret rm (Value.ref b :: argsL).toArray h Q []) (eT : T.heap = h) (hE : Exa Z h b C) (wl : (Jvm.Cond.methodLink own index y).before a0 Z = true) (wi : (Jvm.Cond.instanceMethod y).before a0 Z = true) (wp : (Jvm.Cond.privateMethod y).before a0 Z = true) (wn : (Jvm.Cond.instantiable y.cls kk).before a0 Z = true) (wz : (Jvm.Cond.initialized y.cls).before a0 Z = true) (wc : (Jvm.Cond.code y bytes maxL ret).before a0 Z = true) (hy : y.cls ≠ "java/lang/invoke/MethodHandle" ∧ y.cls ≠ "java/lang/invoke/VarHandle")
    {sig : MethodDescriptor} (hpd : parseMethodDescriptor y.desc = some sig) (hlen : argsL.length = sig.parameters.length) {g : JFrame} (hg : g.method = m) (hsize : g.locals.size = c.maxLocals) (hstack : g.stack = argsL.reverse ++ .ref b :: rest) (W : Nat) (hW : 2 * g.monitorRoom + (rest.map fun v => v.category).sum ≤ W) (hdg : decode c.code g.pc = .ok (.invokevirtual index, 3))
    (hf : rm.frames + 1 ≤ R.frames) (hl : W + (maxL + 11) + rm.locals ≤ R.locals) (hcs : cells + rm.cells ≤ R.cells) (hss : slots + rm.slots ≤ R.slots) :
    ∃ (v : Option Value) (T' : State) (L : List Loc), Stand p l e R s m args below meth c T' (locs ++ L) (cells + rm.cells) (slots + rm.slots) ∧ Q v T'.heap L ∧ ∀ t, Steps p.tables e below (T'.setTop { g with pc := g.pc + 3, stack := v.toList ++ rest }) t → Steps p.tables e below (T.setTop g) t := by
  obtain ⟨cq, q, q'⟩ := hE.cell
  have hp := Cond.privateMethod_at (mvP hZ wp (args := #[]))
  have hn : (Jvm.Cond.instantiable y.cls kk).before args s = true := mvT hZ wn
  obtain ⟨c2, k2, i1, i2, i3, i4, -⟩ := Cond.instantiable_spec hn
  have hsel : (Jvm.Cond.selects y.cls y y).before args s = true := selects_self_of_private i1 i2 (Bool.or_eq_false_iff.mp i4).1 hp (mvT hZ wi) hy
  obtain ⟨v, _, ⟨T', L', k', n'⟩, -, X', ⟨L, hQ, q1, q2, q3⟩, st⟩ := X.privateBack hx hown (mvT hZ wl) (mvT hZ wi) hsel hp (mvT hZ wc) hy (backOf (W := W) hM hZ wc wz hf hl) hg hsize (Steps.refl _) (a := b) (by rw [eT]; exact q) q' (argsL := argsL) (rest := rest) (fun sg hsg => by rw [hpd] at hsg; cases hsg; exact hlen) hstack hW hdg (fun _ _ => ⟨rfl, eT, hcs, hss⟩)
  dsimp only [Pt.U, Pt.locs, Pt.cells, Pt.slots] at X' q1 q2 q3 st hQ
  subst q1 q2 q3
  exact ⟨v, T', L, X', hQ, fun _ k => st.trans k⟩
theorem own_pn {y : MethodName} (hq : plainName y.cls = true) : plainFor y = true := plainFor_of_name hq
end OwnKit
section OwnArr
variable {p : Program} {l : Launch} {e : Env} {R : Room} {s : State} {m : MethodId} {args : Array Value} {below : List Frame} {meth : Method} {c : Code} {T : State} {locs : List Loc} {cells slots : Nat} {Z : State} {a0 : Array Value} {h h' h0 : Heap} {a b : Addr} {ty : FieldType} {vs : List Value} {v : Value} {i sl : Nat} {ws : List Addr}
/-- an array of ty's at a, its components vs -/
def own_AV (Z : State) (h : Heap) (a : Addr) (ty : FieldType) (vs : List Value) : Prop := ∃ c : Cell, Arr Z h a c ty ∧ c.slots.toList = vs ∧ vs.length < 2147483648 ∧ ∀ v ∈ vs, fits ty v = true
theorem own_AV.lt (A : own_AV Z h a ty vs) : a < h.size := by obtain ⟨c, q, -⟩ := A; exact q.lt
theorem own_AV.short (A : own_AV Z h a ty vs) : vs.length < 2147483648 := by obtain ⟨c, -, -, q, -⟩ := A; exact q
theorem own_AV.ext (A : own_AV Z h a ty vs) (E : Ext h h') : own_AV Z h' a ty vs := by obtain ⟨c, q, r⟩ := A; exact ⟨c, q.ext E, r⟩
theorem own_AV.other (A : own_AV Z h b ty vs) (W : Wr h h' a sl v) (q : b ≠ a) : own_AV Z h' b ty vs := by obtain ⟨c, k, r⟩ := A; exact ⟨c, k.other W q, r⟩
theorem own_AV.keep (A : own_AV Z h a ty vs) (K : Keep h h' ws) (q : a ∉ ws) : own_AV Z h' a ty vs := by obtain ⟨c, k, r⟩ := A; exact ⟨c, ⟨K.2.1 a c k.1 q, k.2⟩, r⟩
theorem own_AV.set (A : own_AV Z h a ty vs) (W : Wr h h' a i v) (hv : fits ty v = true) : own_AV Z h' a ty (vs.set i v) := by
  obtain ⟨c, k, r, z, f⟩ := A
  refine ⟨c.setSlot i v, k.same W, ?_, by rw [List.length_set]; exact z, fun u hu => ?_⟩
  · show (c.slots.setIfInBounds i v).toList = _
    rw [Array.toList_setIfInBounds, r]
  · rcases List.mem_or_eq_of_mem_set hu with q | q
    · exact f u q
    · rw [q]; exact hv
theorem own_idx {j : Int32} {i : Nat} (hj : j.toInt = i) : ¬ j < 0 ∧ j.toNatClampNeg = i := by
  refine ⟨?_, ?_⟩
  · rw [Int32.lt_iff_toInt_lt, hj]; show ¬ (i : Int) < 0; omega
  · simp only [Int32.toNatClampNeg, hj]; rfl
theorem own_AV_new {cA : ClassId} {n : Int32} {k : Nat} (A : Arr Z h a (newA cA ty n) ty) (hn : n.toInt = k) : own_AV Z h a ty (List.replicate k (defaultValue ty)) := by
  obtain ⟨q1, q2⟩ := own_idx hn
  refine ⟨_, A, ?_, ?_, fun v hv => ?_⟩
  · show (Array.replicate n.toNatClampNeg _).toList = _
    rw [q2, Array.toList_replicate]
  · rw [List.length_replicate]
    have := n.toInt_lt
    omega
  · rw [(List.mem_replicate.mp hv).2]; cases ty <;> rfl
theorem own_newA (X : Stand p l e R s m args below meth c T locs cells slots) (hx : p.tables.exec = Jvm.exec) (hZ : Z.Warmed39 s.vm) {aty : ArrayType} (w : (Jvm.Cond.arrayClass (newarray.typeOf aty)).before a0 Z = true) (eT : T.heap = h) {g : JFrame} (hg : g.method = m) (hd : decode c.code g.pc = .ok (.newarray aty, 2)) {n : Int32} {rest : List Value} (hs : g.stack = .int n :: rest)
    (k cap : Nat) (hn : n.toInt = k) (hk : k ≤ cap) (hb : cap * 8 ≤ 536870912) (hc : cells + 1 ≤ R.cells) (hl : slots + cap ≤ R.slots) :
    ∃ T' h', Stand p l e R s m args below meth c T' locs (cells + 1) (slots + cap) ∧ T'.heap = h' ∧ Ext h h' ∧ own_AV Z h' h.size (newarray.typeOf aty) (List.replicate k (defaultValue (newarray.typeOf aty))) ∧ ∀ t, Steps p.tables e below (T'.setTop { g with pc := g.pc + 2, stack := .ref h.size :: rest }) t → Steps p.tables e below (T.setTop g) t := by
  obtain ⟨q1, q2⟩ := own_idx hn
  obtain ⟨T', h', cA, X', e', E, A, st⟩ := newP X hx hZ w eT hg hd hs q1 (cap := cap) (by rw [q2]; exact hk) hb hc hl
  exact ⟨T', h', X', e', E, own_AV_new A hn, st⟩
theorem own_stI (X : Stand p l e R s m args below meth c T locs cells slots) (hx : p.tables.exec = Jvm.exec) (hZ : Z.Warmed39 s.vm) (eT : T.heap = h) (A : own_AV Z h a .int vs) {j x : Int32} {g : JFrame} (hg : g.method = m) {rest : List Value} (hs : g.stack = .int x :: .int j :: .ref a :: rest) (hd : decode c.code g.pc = .ok (.iastore, 1)) (i : Nat) (hj : j.toInt = i) (hi : i < vs.length) :
    ∃ T' h', Stand p l e R s m args below meth c T' (locs ++ [⟨a, i⟩]) cells slots ∧ T'.heap = h' ∧ Wr h h' a i (.int x) ∧ own_AV Z h' a .int (vs.set i (.int x)) ∧ ∀ t, Steps p.tables e below (T'.setTop { g with pc := g.pc + 1, stack := rest }) t → Steps p.tables e below (T.setTop g) t := by
  obtain ⟨q1, q2⟩ := own_idx hj
  have A' := A
  obtain ⟨cl, k, r, -, -⟩ := A
  have hz : cl.slots.size = vs.length := by rw [← r]; simp
  obtain ⟨T', h', X', e', W, st⟩ := stI X hx hZ eT k (j := j) (x := x) (by rw [q2, hz]; exact fun u => u.elim q1 (fun z => by omega)) hg hs hd
  rw [q2] at X' W
  exact ⟨T', h', X', e', W, A'.set W rfl, st⟩
theorem own_stJ (X : Stand p l e R s m args below meth c T locs cells slots) (hx : p.tables.exec = Jvm.exec) (hZ : Z.Warmed39 s.vm) (eT : T.heap = h) (A : own_AV Z h a .long vs) {j : Int32} {x : Int64} {g : JFrame} (hg : g.method = m) {rest : List Value} (hs : g.stack = .long x :: .int j :: .ref a :: rest) (hd : decode c.code g.pc = .ok (.lastore, 1)) (i : Nat) (hj : j.toInt = i) (hi : i < vs.length) :
    ∃ T' h', Stand p l e R s m args below meth c T' (locs ++ [⟨a, i⟩]) cells slots ∧ T'.heap = h' ∧ Wr h h' a i (.long x) ∧ own_AV Z h' a .long (vs.set i (.long x)) ∧ ∀ t, Steps p.tables e below (T'.setTop { g with pc := g.pc + 1, stack := rest }) t → Steps p.tables e below (T.setTop g) t := by
  obtain ⟨q1, q2⟩ := own_idx hj
  have A' := A
  obtain ⟨cl, k, r, -, -⟩ := A
  have hz : cl.slots.size = vs.length := by rw [← r]; simp
  obtain ⟨T', h', X', e', W, st⟩ := stJ X hx hZ eT k (j := j) (x := x) (by rw [q2, hz]; exact fun u => u.elim q1 (fun z => by omega)) hg hs hd
  rw [q2] at X' W
  exact ⟨T', h', X', e', W, A'.set W rfl, st⟩
theorem own_ldI (X : Stand p l e R s m args below meth c T locs cells slots) (hx : p.tables.exec = Jvm.exec) (hZ : Z.Warmed39 s.vm) (eT : T.heap = h) (A : own_AV Z h a .int vs) {j : Int32} {g : JFrame} (hg : g.method = m) {rest : List Value} (hs : g.stack = .int j :: .ref a :: rest) (hd : decode c.code g.pc = .ok (.iaload, 1)) (i : Nat) (hj : j.toInt = i) {x : Value} (hi : vs[i]? = some x) :
    ∀ t, Steps p.tables e below (T.setTop { g with pc := g.pc + 1, stack := x :: rest }) t → Steps p.tables e below (T.setTop g) t := by
  obtain ⟨q1, q2⟩ := own_idx hj
  obtain ⟨cl, k, r, -, -⟩ := A
  have hz : cl.slots.size = vs.length := by rw [← r]; simp
  have hv : cl.slots[i]? = some x := by rw [← Array.getElem?_toList, r]; exact hi
  have hl := (List.getElem?_eq_some_iff.mp hi).1
  exact X.iaload hx (by rw [eT]; exact k.1) (State.isArrayOf_alike hZ.alike k.2.1) k.2.2 (by rw [q2, hz]; exact fun u => u.elim q1 (fun z => by omega)) (by rw [q2]; exact hv) hg hs hd
theorem own_ldJ (X : Stand p l e R s m args below meth c T locs cells slots) (hx : p.tables.exec = Jvm.exec) (hZ : Z.Warmed39 s.vm) (eT : T.heap = h) (A : own_AV Z h a .long vs) {j : Int32} {g : JFrame} (hg : g.method = m) {rest : List Value} (hs : g.stack = .int j :: .ref a :: rest) (hd : decode c.code g.pc = .ok (.laload, 1)) (i : Nat) (hj : j.toInt = i) {x : Value} (hi : vs[i]? = some x) :
    ∀ t, Steps p.tables e below (T.setTop { g with pc := g.pc + 1, stack := x :: rest }) t → Steps p.tables e below (T.setTop g) t := by
  obtain ⟨q1, q2⟩ := own_idx hj
  obtain ⟨cl, k, r, -, -⟩ := A
  have hz : cl.slots.size = vs.length := by rw [← r]; simp
  have hv : cl.slots[i]? = some x := by rw [← Array.getElem?_toList, r]; exact hi
  have hl := (List.getElem?_eq_some_iff.mp hi).1
  exact X.laload hx (by rw [eT]; exact k.1) (State.isArrayOf_alike hZ.alike k.2.1) k.2.2 (by rw [q2, hz]; exact fun u => u.elim q1 (fun z => by omega)) (by rw [q2]; exact hv) hg hs hd
theorem own_len (X : Stand p l e R s m args below meth c T locs cells slots) (hx : p.tables.exec = Jvm.exec) (hZ : Z.Warmed39 s.vm) (eT : T.heap = h) (A : own_AV Z h a ty vs) {g : JFrame} (hg : g.method = m) {rest : List Value} (hs : g.stack = .ref a :: rest) (hd : decode c.code g.pc = .ok (.arraylength, 1)) (n : Int32) (hn : n.toInt = vs.length) :
    ∀ t, Steps p.tables e below (T.setTop { g with pc := g.pc + 1, stack := .int n :: rest }) t → Steps p.tables e below (T.setTop g) t := by
  obtain ⟨cl, k, r, z, -⟩ := A
  have hz : cl.slots.size = vs.length := by rw [← r]; simp
  have en : cl.slots.size.toInt32 = n := Int32.toInt_inj.mp (by rw [hn, hz]; exact len_toInt z)
  intro t q
  refine X.arraylength hx (by rw [eT]; exact k.1) (State.isArrayOf_alike hZ.alike k.2.1) hg hs hd t ?_
  rw [en]; exact q
theorem own_newAE (X : Stand p l e R s m args below meth c T locs cells slots) (hx : p.tables.exec = Jvm.exec) (hZ : Z.Warmed39 s.vm) {aty : ArrayType} (w : (Jvm.Cond.arrayClass (newarray.typeOf aty)).before a0 Z = true) (eT : T.heap = h) {g : JFrame} (hg : g.method = m) (hd : decode c.code g.pc = .ok (.newarray aty, 2)) {n : Int32} {rest : List Value} (hs : g.stack = .int n :: rest)
    (k cap : Nat) (hn : n.toInt = k) (hk : k ≤ cap) (hb : cap * 8 ≤ 536870912) (hc : cells + 1 ≤ R.cells) (hl : slots + cap ≤ R.slots) {ad : String} (had : "[" ++ (newarray.typeOf aty).toString = ad) :
    ∃ T' h', Stand p l e R s m args below meth c T' locs (cells + 1) (slots + cap) ∧ T'.heap = h' ∧ Ext h h' ∧ own_AV Z h' h.size (newarray.typeOf aty) (List.replicate k (defaultValue (newarray.typeOf aty))) ∧ Exa Z h' h.size ad ∧ ∀ t, Steps p.tables e below (T'.setTop { g with pc := g.pc + 2, stack := .ref h.size :: rest }) t → Steps p.tables e below (T.setTop g) t := by
  obtain ⟨q1, q2⟩ := own_idx hn
  obtain ⟨T', h', cA, X', e', E, A, C, st⟩ := newPE X hx hZ w eT hg hd hs q1 (cap := cap) (by rw [q2]; exact hk) hb hc hl had
  exact ⟨T', h', X', e', E, own_AV_new A hn, C, st⟩
theorem own_AV.arv (A : own_AV Z h a ty vs) {z : Int32} (hz : z.toInt = vs.length) (dv : Value) : ∃ k, Arv Z h a k ty z vs dv := by
  obtain ⟨q1, q2⟩ := own_idx hz
  obtain ⟨cl, k, r, -, f⟩ := A
  have hs : cl.slots.size = vs.length := by rw [← r]; simp
  refine ⟨cl.cls, cl, k, rfl, by rw [hs, q2], q1, fun i hi => ?_, fun i hi => ?_⟩
  · rw [← Array.getElem?_toList, r, List.getD_eq_getElem?_getD, List.getElem?_eq_getElem (by omega)]; rfl
  · rw [List.getD_eq_getElem?_getD, List.getElem?_eq_getElem (by omega)]; exact f _ (List.getElem_mem _)
theorem own_arv {k : ClassId} {z : Int32} {dv : Value} (F : Arv Z h a k ty z vs dv) (hl : vs.length = z.toNatClampNeg) : own_AV Z h a ty vs := by
  obtain ⟨cl, A, -, S, q, H, G⟩ := F
  have hs : cl.slots.size = vs.length := by rw [S, hl]
  have e1 : cl.slots.toList = vs := by
    apply List.ext_getElem?
    intro i
    by_cases hi : i < vs.length
    · have := H i (by omega)
      rw [Array.getElem?_toList, this, List.getD_eq_getElem?_getD, List.getElem?_eq_getElem hi]; rfl
    · rw [List.getElem?_eq_none (l := vs) (by omega), List.getElem?_eq_none (l := cl.slots.toList) (by rw [Array.length_toList]; omega)]
  refine ⟨cl, A, e1, ?_, fun v hv => ?_⟩
  · have := z.toInt_lt
    rw [hl]; simp only [Int32.toNatClampNeg]; omega
  · obtain ⟨i, hi, rfl⟩ := List.getElem_of_mem hv
    have := G i (by omega)
    rw [List.getD_eq_getElem?_getD, List.getElem?_eq_getElem hi] at this
    exact this
theorem own_copy (X : Stand p l e R s m args below meth c T locs cells slots) (hx : p.tables.exec = Jvm.exec) (hZ : Z.Warmed39 s.vm) {own : String} {index : Nat} (hown : s.vm.findClass own = some m.cls)
    (w1 : (Jvm.Cond.methodLink own index Jvm.Stand.acN).before a0 Z = true) (w2 : (Jvm.Cond.native Jvm.Stand.acN).before a0 Z = true) (w3 : (Jvm.Cond.static Jvm.Stand.acN).before a0 Z = true) (w4 : (Jvm.Cond.initialized "java/lang/System").before a0 Z = true) (eT : T.heap = h)
    {us : List Value} (A : own_AV Z h a ty vs) (B : own_AV Z h b ty us) (hp : refKind ty = false) {sp dp nn : Int32} {g : JFrame} (hg : g.method = m) (hsize : g.locals.size = c.maxLocals) {rest : List Value} (hs : g.stack = .int nn :: .int dp :: .ref b :: .int sp :: .ref a :: rest) (hd : decode c.code g.pc = .ok (.invokestatic index, 3))
    (i j n : Nat) (hsp : sp.toInt = i) (hdp : dp.toInt = j) (hn : nn.toInt = n) (h4 : i + n ≤ vs.length) (h5 : j + n ≤ us.length) {n0 : Nat} (N : Fr n0 locs) (ge : n0 ≤ b)
    (W : Nat) (hW : 2 * g.monitorRoom + (rest.map fun v => v.category).sum ≤ W) (hf : 1 ≤ R.frames) (hlo : W + (nativeFrameWords "java/lang/System" "arraycopy" 5 + 11) ≤ R.locals) :
    ∃ T' h' L, Stand p l e R s m args below meth c T' L cells slots ∧ T'.heap = h' ∧ Fr n0 L ∧ Keep h h' [b] ∧ own_AV Z h' b ty (us.take j ++ (vs.drop i).take n ++ us.drop (j + n)) ∧
      ∀ t, Steps p.tables e below (T'.setTop { g with pc := g.pc + 3, stack := rest }) t → Steps p.tables e below (T.setTop g) t := by
  obtain ⟨s1, s2⟩ := own_idx hsp
  obtain ⟨d1, d2⟩ := own_idx hdp
  obtain ⟨n1, n2⟩ := own_idx hn
  have zA := len_toInt A.short
  have zB := len_toInt B.short
  obtain ⟨kA, FA⟩ := A.arv zA .null
  obtain ⟨kB, FB⟩ := B.arv zB .null
  have cA : vs.length.toInt32.toNatClampNeg = vs.length := (own_idx zA).2
  have cB : us.length.toInt32.toNatClampNeg = us.length := (own_idx zB).2
  have hus : (vs.drop i).take n = (List.range nn.toNatClampNeg).map fun q => vs.getD (sp.toNatClampNeg + q) .null := by
    rw [n2, s2]
    apply List.ext_getElem?
    intro q
    by_cases hq : q < n
    · rw [List.getElem?_take_of_lt hq, List.getElem?_drop, List.getElem?_map, List.getElem?_range hq, List.getElem?_eq_getElem (by omega)]
      show some _ = some (vs.getD (i + q) .null)
      rw [List.getD_eq_getElem?_getD, List.getElem?_eq_getElem (by omega)]; rfl
    · rw [List.getElem?_eq_none (by rw [List.length_take]; omega), List.getElem?_eq_none (by simp; omega)]
  obtain ⟨T', h', L, X', e', NL, K, F', st⟩ := cpA X hx hZ hown w1 w2 w3 w4 eT FA FB (Or.inl ⟨rfl, hp⟩) s1 d1 n1 (by rw [s2, n2, cA]; exact h4) (by rw [d2, n2, cB]; exact h5) hus (by rw [d2, n2]; exact h5) N ge hg hsize hs hd hf hW hlo
  rw [d2, n2] at F'
  exact ⟨T', h', L, X', e', NL, K, own_arv F' (by rw [cB]; simp only [List.length_append, List.length_take, List.length_drop]; omega), st⟩
theorem own_clone (X : Stand p l e R s m args below meth c T locs cells slots) (hx : p.tables.exec = Jvm.exec) (hZ : Z.Warmed39 s.vm) {own ad : String} {index : Nat} (hown : s.vm.findClass own = some m.cls)
    (w1 : (Jvm.Cond.methodLink own index ⟨ad, "clone", "()Ljava/lang/Object;"⟩).before a0 Z = true) (w2 : (Jvm.Cond.sameMethod ad "java/lang/Object" "clone" "()Ljava/lang/Object;").before a0 Z = true) (w3 : (Jvm.Cond.native ⟨"java/lang/Object", "clone", "()Ljava/lang/Object;"⟩).before a0 Z = true)
    (w4 : (Jvm.Cond.instanceMethod ⟨"java/lang/Object", "clone", "()Ljava/lang/Object;"⟩).before a0 Z = true) (w5 : (Jvm.Cond.selects ad ⟨ad, "clone", "()Ljava/lang/Object;"⟩ ⟨"java/lang/Object", "clone", "()Ljava/lang/Object;"⟩).before a0 Z = true) (w6 : (Jvm.Cond.castable ad "java/lang/Cloneable").before a0 Z = true)
    (eT : T.heap = h) (A : own_AV Z h a ty vs) (E : Exa Z h a ad) {g : JFrame} (hg : g.method = m) (hsize : g.locals.size = c.maxLocals) {rest : List Value} (hs : g.stack = .ref a :: rest) (hd : decode c.code g.pc = .ok (.invokevirtual index, 3))
    (W cap : Nat) (hW : 2 * g.monitorRoom + (rest.map fun v => v.category).sum ≤ W) (hf : 1 ≤ R.frames) (hl : W + 14 ≤ R.locals) (hcap : vs.length ≤ cap) (hc : cells + 1 ≤ R.cells) (hsl : slots + cap ≤ R.slots) :
    ∃ T' h', Stand p l e R s m args below meth c T' locs (cells + 1) (slots + cap) ∧ T'.heap = h' ∧ Ext h h' ∧ own_AV Z h' h.size ty vs ∧ Exa Z h' h.size ad ∧
      ∀ t, Steps p.tables e below (T'.setTop { g with pc := g.pc + 3, stack := .ref h.size :: rest }) t → Steps p.tables e below (T.setTop g) t := by
  obtain ⟨cl, k, r, z, f⟩ := A
  have hz : cl.slots.size = vs.length := by rw [← r]; simp
  have FC : FitC Z cl := fitC_of k fun i hi v hv => f v (by rw [← r]; exact List.mem_of_getElem? (i := i) (by rw [Array.getElem?_toList]; exact hv))
  obtain ⟨T', h', X', e', E', A', C', st⟩ := cloneA X hx hZ hown w1 w2 w3 w4 w5 w6 eT k E FC hg hsize hs hd hf (W := W) hW hl (cap := cap) (by omega) hc hsl
  exact ⟨T', h', X', e', E', ⟨_, A', r, z, f⟩, C', st⟩
end OwnArr
theorem d3_0 : decode method_3_code 0 = .ok (.iload_n 0, 1) := by decide +kernel
theorem d3_1 : decode method_3_code 1 = .ok (.ifCond .eq 8, 3) := by decide +kernel
theorem d3_4 : decode method_3_code 4 = .ok (.iload_n 0, 1) := by decide +kernel
theorem d3_5 : decode method_3_code 5 = .ok (.iconst 1, 1) := by decide +kernel
theorem d3_6 : decode method_3_code 6 = .ok (.if_icmp .ne 5, 3) := by decide +kernel
theorem d3_9 : decode method_3_code 9 = .ok (.iconst 1, 1) := by decide +kernel
theorem d3_10 : decode method_3_code 10 = .ok (.ireturn, 1) := by decide +kernel
theorem d3_11 : decode method_3_code 11 = .ok (.iload_n 0, 1) := by decide +kernel
theorem d3_12 : decode method_3_code 12 = .ok (.iconst 2, 1) := by decide +kernel
theorem d3_13 : decode method_3_code 13 = .ok (.if_icmp .ne 14, 3) := by decide +kernel
theorem d3_16 : decode method_3_code 16 = .ok (.iload_n 1, 1) := by decide +kernel
theorem d3_17 : decode method_3_code 17 = .ok (.iconst 4, 1) := by decide +kernel
theorem d3_18 : decode method_3_code 18 = .ok (.if_icmp .ne 7, 3) := by decide +kernel
theorem d3_21 : decode method_3_code 21 = .ok (.iconst 1, 1) := by decide +kernel
theorem d3_22 : decode method_3_code 22 = .ok (.goto 4, 3) := by decide +kernel
theorem d3_25 : decode method_3_code 25 = .ok (.iconst 0, 1) := by decide +kernel
theorem d3_26 : decode method_3_code 26 = .ok (.ireturn, 1) := by decide +kernel
theorem d3_27 : decode method_3_code 27 = .ok (.iload_n 0, 1) := by decide +kernel
theorem d3_28 : decode method_3_code 28 = .ok (.iconst 3, 1) := by decide +kernel
theorem d3_29 : decode method_3_code 29 = .ok (.if_icmp .ne 15, 3) := by decide +kernel
theorem d3_32 : decode method_3_code 32 = .ok (.iload_n 1, 1) := by decide +kernel
theorem d3_33 : decode method_3_code 33 = .ok (.bipush 16, 2) := by decide +kernel
theorem d3_35 : decode method_3_code 35 = .ok (.if_icmp .ne 7, 3) := by decide +kernel
theorem d3_38 : decode method_3_code 38 = .ok (.iconst 1, 1) := by decide +kernel
theorem d3_39 : decode method_3_code 39 = .ok (.goto 4, 3) := by decide +kernel
theorem d3_42 : decode method_3_code 42 = .ok (.iconst 0, 1) := by decide +kernel
theorem d3_43 : decode method_3_code 43 = .ok (.ireturn, 1) := by decide +kernel
theorem d3_44 : decode method_3_code 44 = .ok (.iload_n 1, 1) := by decide +kernel
theorem d3_45 : decode method_3_code 45 = .ok (.bipush 6, 2) := by decide +kernel
theorem d3_47 : decode method_3_code 47 = .ok (.if_icmp .eq 9, 3) := by decide +kernel
theorem d3_50 : decode method_3_code 50 = .ok (.iload_n 1, 1) := by decide +kernel
theorem d3_51 : decode method_3_code 51 = .ok (.bipush 8, 2) := by decide +kernel
theorem d3_53 : decode method_3_code 53 = .ok (.if_icmp .ne 7, 3) := by decide +kernel
theorem d3_56 : decode method_3_code 56 = .ok (.iconst 1, 1) := by decide +kernel
theorem d3_57 : decode method_3_code 57 = .ok (.goto 4, 3) := by decide +kernel
theorem d3_60 : decode method_3_code 60 = .ok (.iconst 0, 1) := by decide +kernel
theorem d3_61 : decode method_3_code 61 = .ok (.ireturn, 1) := by decide +kernel
def own_expected (x0 : Int32) (x1 : Int32) : Int32 := (if x0 = (0 : Int32) then (1 : Int32) else (if x0 = (1 : Int32) then (1 : Int32) else (if x0 = (2 : Int32) then (if x1 = (4 : Int32) then (1 : Int32) else (0 : Int32)) else (if x0 = (3 : Int32) then (if x1 = (16 : Int32) then (1 : Int32) else (0 : Int32)) else (if x1 = (6 : Int32) then (1 : Int32) else (if x1 = (8 : Int32) then (1 : Int32) else (0 : Int32)))))))
set_option maxRecDepth 65536 in
set_option maxHeartbeats 40000000 in
theorem own_expected_con (l : Launch) (Z : State) (a0 : Array Value) (hw : ∀ d ∈ tables_1, d.before a0 Z = true) (x0 : Int32) (x1 : Int32)  (h0 : Heap) (ws : List Jvm.Cond) :
    own_Con l Z (⟨"com/example/jadeite/jadeite/formats/BinaryFormatHoldsPinLaw", "expected", "(II)Z"⟩ : MethodName) method_3_code 2 (some .boolean) ({ frames := 0, cells := 0, slots := 0, locals := 0 } : Room) #[(.int x0), (.int x1)] h0 (own_PQ h0 (.int (own_expected x0 x1))) ws := by
  refine own_con (F := fun m => (mkF m 0 #[.val (.int x0), .val (.int x1)] [])) (own_pn (by first | (simp [plainName, overriddenIn]; done) | decide +kernel)) (fun m => by first | (simp [entryFrame, mkF, argsToLocals, Value.category]; done) | rfl) ?_
  intro p e s m below meth c T X hx hby hml hZ hown hnm hret hlk eT
  show own_Go p e below (own_Out s (own_PQ h0 (.int (own_expected x0 x1))) 0 0) (T.setTop (mkF m 0 #[.val (.int x0), .val (.int x1)] []))
  show own_Go p e below (own_Out s (own_PQ h0 (.int (if x0 = (0 : Int32) then (1 : Int32) else (if x0 = (1 : Int32) then (1 : Int32) else (if x0 = (2 : Int32) then (if x1 = (4 : Int32) then (1 : Int32) else (0 : Int32)) else (if x0 = (3 : Int32) then (if x1 = (16 : Int32) then (1 : Int32) else (0 : Int32)) else (if x1 = (6 : Int32) then (1 : Int32) else (if x1 = (8 : Int32) then (1 : Int32) else (0 : Int32))))))))) 0 0) _
  refine own_go (fun _ => XS.iloadN X.here hx rfl (hb hby d3_0) rfl) ?_
  show own_Go p e below _ (T.setTop (mkF m 1 #[.val (.int x0), .val (.int x1)] [(.int x0)]))
  refine own_iteI (fun hc1 => ?_) (fun hc1 => ?_)
  · skip
    refine own_go (fun _ => XS.ifYes X.here hx rfl (pc0 := 1) (pc' := 9) rfl (hb hby d3_1) rfl (XT.i0_eq_t hc1) (by decide) (by decide)) ?_
    show own_Go p e below _ (T.setTop (mkF m 9 #[.val (.int x0), .val (.int x1)] []))
    refine own_go (fun _ => XS.iconst X.here hx rfl (hb hby d3_9)) ?_
    show own_Go p e below _ (T.setTop (mkF m 10 #[.val (.int x0), .val (.int x1)] [(.int (1 : Int32))]))
    exact own_iret X hx hlk hret (Or.inr (Or.inl rfl)) rfl (hb hby d3_10) (Nat.zero_le _) (Nat.zero_le _) ⟨rfl, eT, rfl⟩
  · skip
    refine own_go (fun _ => XS.ifNo X.here hx rfl (hb hby d3_1) rfl (XT.i0_eq_f hc1)) ?_
    show own_Go p e below _ (T.setTop (mkF m 4 #[.val (.int x0), .val (.int x1)] []))
    refine own_go (fun _ => XS.iloadN X.here hx rfl (hb hby d3_4) rfl) ?_
    show own_Go p e below _ (T.setTop (mkF m 5 #[.val (.int x0), .val (.int x1)] [(.int x0)]))
    refine own_go (fun _ => XS.iconst X.here hx rfl (hb hby d3_5)) ?_
    show own_Go p e below _ (T.setTop (mkF m 6 #[.val (.int x0), .val (.int x1)] [(.int (1 : Int32)), (.int x0)]))
    refine own_iteI (fun hc6 => ?_) (fun hc6 => ?_)
    · skip
      refine own_go (fun _ => XS.icmpNo X.here hx rfl (hb hby d3_6) rfl (XT.ii_ne_f hc6)) ?_
      show own_Go p e below _ (T.setTop (mkF m 9 #[.val (.int x0), .val (.int x1)] []))
      refine own_go (fun _ => XS.iconst X.here hx rfl (hb hby d3_9)) ?_
      show own_Go p e below _ (T.setTop (mkF m 10 #[.val (.int x0), .val (.int x1)] [(.int (1 : Int32))]))
      exact own_iret X hx hlk hret (Or.inr (Or.inl rfl)) rfl (hb hby d3_10) (Nat.zero_le _) (Nat.zero_le _) ⟨rfl, eT, rfl⟩
    · skip
      refine own_go (fun _ => XS.icmpYes X.here hx rfl (pc0 := 6) (pc' := 11) rfl (hb hby d3_6) rfl (XT.ii_ne_t hc6) (by decide) (by decide)) ?_
      show own_Go p e below _ (T.setTop (mkF m 11 #[.val (.int x0), .val (.int x1)] []))
      refine own_go (fun _ => XS.iloadN X.here hx rfl (hb hby d3_11) rfl) ?_
      show own_Go p e below _ (T.setTop (mkF m 12 #[.val (.int x0), .val (.int x1)] [(.int x0)]))
      refine own_go (fun _ => XS.iconst X.here hx rfl (hb hby d3_12)) ?_
      show own_Go p e below _ (T.setTop (mkF m 13 #[.val (.int x0), .val (.int x1)] [(.int (2 : Int32)), (.int x0)]))
      refine own_iteI (fun hc13 => ?_) (fun hc13 => ?_)
      · skip
        refine own_go (fun _ => XS.icmpNo X.here hx rfl (hb hby d3_13) rfl (XT.ii_ne_f hc13)) ?_
        show own_Go p e below _ (T.setTop (mkF m 16 #[.val (.int x0), .val (.int x1)] []))
        refine own_go (fun _ => XS.iloadN X.here hx rfl (hb hby d3_16) rfl) ?_
        show own_Go p e below _ (T.setTop (mkF m 17 #[.val (.int x0), .val (.int x1)] [(.int x1)]))
        refine own_go (fun _ => XS.iconst X.here hx rfl (hb hby d3_17)) ?_
        show own_Go p e below _ (T.setTop (mkF m 18 #[.val (.int x0), .val (.int x1)] [(.int (4 : Int32)), (.int x1)]))
        refine own_iteI (fun hc18 => ?_) (fun hc18 => ?_)
        · skip
          refine own_go (fun _ => XS.icmpNo X.here hx rfl (hb hby d3_18) rfl (XT.ii_ne_f hc18)) ?_
          show own_Go p e below _ (T.setTop (mkF m 21 #[.val (.int x0), .val (.int x1)] []))
          refine own_go (fun _ => XS.iconst X.here hx rfl (hb hby d3_21)) ?_
          show own_Go p e below _ (T.setTop (mkF m 22 #[.val (.int x0), .val (.int x1)] [(.int (1 : Int32))]))
          refine own_go (fun _ => XS.goto X.here hx rfl (pc0 := 22) (pc' := 26) rfl (hb hby d3_22) (by decide) (by decide)) ?_
          show own_Go p e below _ (T.setTop (mkF m 26 #[.val (.int x0), .val (.int x1)] [(.int (1 : Int32))]))
          exact own_iret X hx hlk hret (Or.inr (Or.inl rfl)) rfl (hb hby d3_26) (Nat.zero_le _) (Nat.zero_le _) ⟨rfl, eT, rfl⟩
        · skip
          refine own_go (fun _ => XS.icmpYes X.here hx rfl (pc0 := 18) (pc' := 25) rfl (hb hby d3_18) rfl (XT.ii_ne_t hc18) (by decide) (by decide)) ?_
          show own_Go p e below _ (T.setTop (mkF m 25 #[.val (.int x0), .val (.int x1)] []))
          refine own_go (fun _ => XS.iconst X.here hx rfl (hb hby d3_25)) ?_
          show own_Go p e below _ (T.setTop (mkF m 26 #[.val (.int x0), .val (.int x1)] [(.int (0 : Int32))]))
          exact own_iret X hx hlk hret (Or.inr (Or.inl rfl)) rfl (hb hby d3_26) (Nat.zero_le _) (Nat.zero_le _) ⟨rfl, eT, rfl⟩
      · skip
        refine own_go (fun _ => XS.icmpYes X.here hx rfl (pc0 := 13) (pc' := 27) rfl (hb hby d3_13) rfl (XT.ii_ne_t hc13) (by decide) (by decide)) ?_
        show own_Go p e below _ (T.setTop (mkF m 27 #[.val (.int x0), .val (.int x1)] []))
        refine own_go (fun _ => XS.iloadN X.here hx rfl (hb hby d3_27) rfl) ?_
        show own_Go p e below _ (T.setTop (mkF m 28 #[.val (.int x0), .val (.int x1)] [(.int x0)]))
        refine own_go (fun _ => XS.iconst X.here hx rfl (hb hby d3_28)) ?_
        show own_Go p e below _ (T.setTop (mkF m 29 #[.val (.int x0), .val (.int x1)] [(.int (3 : Int32)), (.int x0)]))
        refine own_iteI (fun hc29 => ?_) (fun hc29 => ?_)
        · skip
          refine own_go (fun _ => XS.icmpNo X.here hx rfl (hb hby d3_29) rfl (XT.ii_ne_f hc29)) ?_
          show own_Go p e below _ (T.setTop (mkF m 32 #[.val (.int x0), .val (.int x1)] []))
          refine own_go (fun _ => XS.iloadN X.here hx rfl (hb hby d3_32) rfl) ?_
          show own_Go p e below _ (T.setTop (mkF m 33 #[.val (.int x0), .val (.int x1)] [(.int x1)]))
          refine own_go (fun _ => XS.bipush X.here hx rfl (hb hby d3_33)) ?_
          show own_Go p e below _ (T.setTop (mkF m 35 #[.val (.int x0), .val (.int x1)] [(.int (16 : Int32)), (.int x1)]))
          refine own_iteI (fun hc35 => ?_) (fun hc35 => ?_)
          · skip
            refine own_go (fun _ => XS.icmpNo X.here hx rfl (hb hby d3_35) rfl (XT.ii_ne_f hc35)) ?_
            show own_Go p e below _ (T.setTop (mkF m 38 #[.val (.int x0), .val (.int x1)] []))
            refine own_go (fun _ => XS.iconst X.here hx rfl (hb hby d3_38)) ?_
            show own_Go p e below _ (T.setTop (mkF m 39 #[.val (.int x0), .val (.int x1)] [(.int (1 : Int32))]))
            refine own_go (fun _ => XS.goto X.here hx rfl (pc0 := 39) (pc' := 43) rfl (hb hby d3_39) (by decide) (by decide)) ?_
            show own_Go p e below _ (T.setTop (mkF m 43 #[.val (.int x0), .val (.int x1)] [(.int (1 : Int32))]))
            exact own_iret X hx hlk hret (Or.inr (Or.inl rfl)) rfl (hb hby d3_43) (Nat.zero_le _) (Nat.zero_le _) ⟨rfl, eT, rfl⟩
          · skip
            refine own_go (fun _ => XS.icmpYes X.here hx rfl (pc0 := 35) (pc' := 42) rfl (hb hby d3_35) rfl (XT.ii_ne_t hc35) (by decide) (by decide)) ?_
            show own_Go p e below _ (T.setTop (mkF m 42 #[.val (.int x0), .val (.int x1)] []))
            refine own_go (fun _ => XS.iconst X.here hx rfl (hb hby d3_42)) ?_
            show own_Go p e below _ (T.setTop (mkF m 43 #[.val (.int x0), .val (.int x1)] [(.int (0 : Int32))]))
            exact own_iret X hx hlk hret (Or.inr (Or.inl rfl)) rfl (hb hby d3_43) (Nat.zero_le _) (Nat.zero_le _) ⟨rfl, eT, rfl⟩
        · skip
          refine own_go (fun _ => XS.icmpYes X.here hx rfl (pc0 := 29) (pc' := 44) rfl (hb hby d3_29) rfl (XT.ii_ne_t hc29) (by decide) (by decide)) ?_
          show own_Go p e below _ (T.setTop (mkF m 44 #[.val (.int x0), .val (.int x1)] []))
          refine own_go (fun _ => XS.iloadN X.here hx rfl (hb hby d3_44) rfl) ?_
          show own_Go p e below _ (T.setTop (mkF m 45 #[.val (.int x0), .val (.int x1)] [(.int x1)]))
          refine own_go (fun _ => XS.bipush X.here hx rfl (hb hby d3_45)) ?_
          show own_Go p e below _ (T.setTop (mkF m 47 #[.val (.int x0), .val (.int x1)] [(.int (6 : Int32)), (.int x1)]))
          refine own_iteI (fun hc47 => ?_) (fun hc47 => ?_)
          · skip
            refine own_go (fun _ => XS.icmpYes X.here hx rfl (pc0 := 47) (pc' := 56) rfl (hb hby d3_47) rfl (XT.ii_eq_t hc47) (by decide) (by decide)) ?_
            show own_Go p e below _ (T.setTop (mkF m 56 #[.val (.int x0), .val (.int x1)] []))
            refine own_go (fun _ => XS.iconst X.here hx rfl (hb hby d3_56)) ?_
            show own_Go p e below _ (T.setTop (mkF m 57 #[.val (.int x0), .val (.int x1)] [(.int (1 : Int32))]))
            refine own_go (fun _ => XS.goto X.here hx rfl (pc0 := 57) (pc' := 61) rfl (hb hby d3_57) (by decide) (by decide)) ?_
            show own_Go p e below _ (T.setTop (mkF m 61 #[.val (.int x0), .val (.int x1)] [(.int (1 : Int32))]))
            exact own_iret X hx hlk hret (Or.inr (Or.inl rfl)) rfl (hb hby d3_61) (Nat.zero_le _) (Nat.zero_le _) ⟨rfl, eT, rfl⟩
          · skip
            refine own_go (fun _ => XS.icmpNo X.here hx rfl (hb hby d3_47) rfl (XT.ii_eq_f hc47)) ?_
            show own_Go p e below _ (T.setTop (mkF m 50 #[.val (.int x0), .val (.int x1)] []))
            refine own_go (fun _ => XS.iloadN X.here hx rfl (hb hby d3_50) rfl) ?_
            show own_Go p e below _ (T.setTop (mkF m 51 #[.val (.int x0), .val (.int x1)] [(.int x1)]))
            refine own_go (fun _ => XS.bipush X.here hx rfl (hb hby d3_51)) ?_
            show own_Go p e below _ (T.setTop (mkF m 53 #[.val (.int x0), .val (.int x1)] [(.int (8 : Int32)), (.int x1)]))
            refine own_iteI (fun hc53 => ?_) (fun hc53 => ?_)
            · skip
              refine own_go (fun _ => XS.icmpNo X.here hx rfl (hb hby d3_53) rfl (XT.ii_ne_f hc53)) ?_
              show own_Go p e below _ (T.setTop (mkF m 56 #[.val (.int x0), .val (.int x1)] []))
              refine own_go (fun _ => XS.iconst X.here hx rfl (hb hby d3_56)) ?_
              show own_Go p e below _ (T.setTop (mkF m 57 #[.val (.int x0), .val (.int x1)] [(.int (1 : Int32))]))
              refine own_go (fun _ => XS.goto X.here hx rfl (pc0 := 57) (pc' := 61) rfl (hb hby d3_57) (by decide) (by decide)) ?_
              show own_Go p e below _ (T.setTop (mkF m 61 #[.val (.int x0), .val (.int x1)] [(.int (1 : Int32))]))
              exact own_iret X hx hlk hret (Or.inr (Or.inl rfl)) rfl (hb hby d3_61) (Nat.zero_le _) (Nat.zero_le _) ⟨rfl, eT, rfl⟩
            · skip
              refine own_go (fun _ => XS.icmpYes X.here hx rfl (pc0 := 53) (pc' := 60) rfl (hb hby d3_53) rfl (XT.ii_ne_t hc53) (by decide) (by decide)) ?_
              show own_Go p e below _ (T.setTop (mkF m 60 #[.val (.int x0), .val (.int x1)] []))
              refine own_go (fun _ => XS.iconst X.here hx rfl (hb hby d3_60)) ?_
              show own_Go p e below _ (T.setTop (mkF m 61 #[.val (.int x0), .val (.int x1)] [(.int (0 : Int32))]))
              exact own_iret X hx hlk hret (Or.inr (Or.inl rfl)) rfl (hb hby d3_61) (Nat.zero_le _) (Nat.zero_le _) ⟨rfl, eT, rfl⟩
theorem d2_0 : decode prog_18_method_8_code 0 = .ok (.aload_n 0, 1) := by decide +kernel
theorem d2_1 : decode prog_18_method_8_code 1 = .ok (.getfield 45, 3) := by decide +kernel
theorem d2_4 : decode prog_18_method_8_code 4 = .ok (.astore_n 2, 1) := by decide +kernel
theorem d2_5 : decode prog_18_method_8_code 5 = .ok (.aload_n 2, 1) := by decide +kernel
theorem d2_6 : decode prog_18_method_8_code 6 = .ok (.arraylength, 1) := by decide +kernel
theorem d2_7 : decode prog_18_method_8_code 7 = .ok (.istore_n 3, 1) := by decide +kernel
theorem d2_8 : decode prog_18_method_8_code 8 = .ok (.iconst 0, 1) := by decide +kernel
theorem d2_9 : decode prog_18_method_8_code 9 = .ok (.istore 4, 2) := by decide +kernel
theorem d2_11 : decode prog_18_method_8_code 11 = .ok (.iload 4, 2) := by decide +kernel
theorem d2_13 : decode prog_18_method_8_code 13 = .ok (.iload_n 3, 1) := by decide +kernel
theorem d2_14 : decode prog_18_method_8_code 14 = .ok (.if_icmp .ge 23, 3) := by decide +kernel
theorem d2_17 : decode prog_18_method_8_code 17 = .ok (.aload_n 2, 1) := by decide +kernel
theorem d2_18 : decode prog_18_method_8_code 18 = .ok (.iload 4, 2) := by decide +kernel
theorem d2_20 : decode prog_18_method_8_code 20 = .ok (.iaload, 1) := by decide +kernel
theorem d2_21 : decode prog_18_method_8_code 21 = .ok (.istore 5, 2) := by decide +kernel
theorem d2_23 : decode prog_18_method_8_code 23 = .ok (.iload 5, 2) := by decide +kernel
theorem d2_25 : decode prog_18_method_8_code 25 = .ok (.iload_n 1, 1) := by decide +kernel
theorem d2_26 : decode prog_18_method_8_code 26 = .ok (.if_icmp .ne 5, 3) := by decide +kernel
theorem d2_29 : decode prog_18_method_8_code 29 = .ok (.iconst 1, 1) := by decide +kernel
theorem d2_30 : decode prog_18_method_8_code 30 = .ok (.ireturn, 1) := by decide +kernel
theorem d2_31 : decode prog_18_method_8_code 31 = .ok (.iinc 4 1, 3) := by decide +kernel
theorem d2_34 : decode prog_18_method_8_code 34 = .ok (.goto (-23), 3) := by decide +kernel
theorem d2_37 : decode prog_18_method_8_code 37 = .ok (.aload_n 0, 1) := by decide +kernel
theorem d2_38 : decode prog_18_method_8_code 38 = .ok (.getfield 45, 3) := by decide +kernel
theorem d2_41 : decode prog_18_method_8_code 41 = .ok (.arraylength, 1) := by decide +kernel
theorem d2_42 : decode prog_18_method_8_code 42 = .ok (.ifCond .ne 7, 3) := by decide +kernel
theorem d2_45 : decode prog_18_method_8_code 45 = .ok (.iconst 1, 1) := by decide +kernel
theorem d2_46 : decode prog_18_method_8_code 46 = .ok (.goto 4, 3) := by decide +kernel
theorem d2_49 : decode prog_18_method_8_code 49 = .ok (.iconst 0, 1) := by decide +kernel
theorem d2_50 : decode prog_18_method_8_code 50 = .ok (.ireturn, 1) := by decide +kernel
set_option maxRecDepth 65536 in
set_option maxHeartbeats 40000000 in
theorem own_holds0_con (l : Launch) (Z : State) (a0 : Array Value) (hw : ∀ d ∈ tables_1, d.before a0 Z = true) (a b : Addr) (n : Int32) (h0 : Heap) (fl : Fld Z h0 a "com/example/jadeite/jadeite/formats/BinaryFormat" "lengths" "[I" (.ref b)) (av : own_AV Z h0 b .int []) (ws : List Jvm.Cond) :
    own_Con l Z (⟨"com/example/jadeite/jadeite/formats/BinaryFormat", "holds", "(I)Z"⟩ : MethodName) prog_18_method_8_code 6 (some .boolean) ({ frames := 0, cells := 0, slots := 0, locals := 0 } : Room) #[(.ref a), (.int n)] h0 (own_PQ h0 (.int 1)) ws := by
  refine own_con (F := fun m => (mkF m 0 #[.val (.ref a), .val (.int n), .unset, .unset, .unset, .unset] [])) (own_pn (by first | (simp [plainName, overriddenIn]; done) | decide +kernel)) (fun m => by first | (simp [entryFrame, mkF, argsToLocals, Value.category]; done) | rfl) ?_
  intro p e s m below meth c T X hx hby hml hZ hown hnm hret hlk eT
  show own_Go p e below (own_Out s (own_PQ h0 (.int 1)) ({ frames := 0, cells := 0, slots := 0, locals := 0 } : Room).cells ({ frames := 0, cells := 0, slots := 0, locals := 0 } : Room).slots) (T.setTop (mkF m 0 #[.val (.ref a), .val (.int n), .unset, .unset, .unset, .unset] []))
  refine own_go (fun _ => XS.aloadN X.here hx rfl (hb hby d2_0) rfl rfl) ?_
  show own_Go p e below _ (T.setTop (mkF m 1 #[.val (.ref a), .val (.int n), .unset, .unset, .unset, .unset] [(.ref a)]))
  obtain ⟨T1, X1, e1, st1⟩ := getF X hx hZ hown (host := "") (Or.inl (hw _ (List.mem_of_getElem? (i := 13) rfl))) Via.refl eT fl (g := (mkF m 1 #[.val (.ref a), .val (.int n), .unset, .unset, .unset, .unset] [(.ref a)])) rfl rfl (hb hby d2_1)
  refine own_go st1 ?_
  show own_Go p e below _ (T1.setTop (mkF m 4 #[.val (.ref a), .val (.int n), .unset, .unset, .unset, .unset] [(.ref b)]))
  refine own_go (fun _ => XS.astoreN X1.here hx rfl (hb hby d2_4) rfl rfl (l' := #[.val (.ref a), .val (.int n), .val (.ref b), .unset, .unset, .unset]) rfl) ?_
  show own_Go p e below _ (T1.setTop (mkF m 5 #[.val (.ref a), .val (.int n), .val (.ref b), .unset, .unset, .unset] []))
  refine own_go (fun _ => XS.aloadN X1.here hx rfl (hb hby d2_5) rfl rfl) ?_
  show own_Go p e below _ (T1.setTop (mkF m 6 #[.val (.ref a), .val (.int n), .val (.ref b), .unset, .unset, .unset] [(.ref b)]))
  refine own_go (own_len X1 hx hZ e1 av (g := (mkF m 6 #[.val (.ref a), .val (.int n), .val (.ref b), .unset, .unset, .unset] [(.ref b)])) rfl rfl (hb hby d2_6) (0 : Int32) (by decide)) ?_
  show own_Go p e below _ (T1.setTop (mkF m 7 #[.val (.ref a), .val (.int n), .val (.ref b), .unset, .unset, .unset] [(.int (0 : Int32))]))
  refine own_go (fun _ => XS.istoreN X1.here hx rfl (hb hby d2_7) rfl (l' := #[.val (.ref a), .val (.int n), .val (.ref b), .val (.int (0 : Int32)), .unset, .unset]) rfl) ?_
  show own_Go p e below _ (T1.setTop (mkF m 8 #[.val (.ref a), .val (.int n), .val (.ref b), .val (.int (0 : Int32)), .unset, .unset] []))
  refine own_go (fun _ => XS.iconst X1.here hx rfl (hb hby d2_8)) ?_
  show own_Go p e below _ (T1.setTop (mkF m 9 #[.val (.ref a), .val (.int n), .val (.ref b), .val (.int (0 : Int32)), .unset, .unset] [(.int (0 : Int32))]))
  refine own_go (fun _ => XS.istore X1.here hx rfl (hb hby d2_9) rfl (l' := #[.val (.ref a), .val (.int n), .val (.ref b), .val (.int (0 : Int32)), .val (.int (0 : Int32)), .unset]) rfl) ?_
  show own_Go p e below _ (T1.setTop (mkF m 11 #[.val (.ref a), .val (.int n), .val (.ref b), .val (.int (0 : Int32)), .val (.int (0 : Int32)), .unset] []))
  refine own_go (fun _ => XS.iload X1.here hx rfl (hb hby d2_11) rfl) ?_
  show own_Go p e below _ (T1.setTop (mkF m 13 #[.val (.ref a), .val (.int n), .val (.ref b), .val (.int (0 : Int32)), .val (.int (0 : Int32)), .unset] [(.int (0 : Int32))]))
  refine own_go (fun _ => XS.iloadN X1.here hx rfl (hb hby d2_13) rfl) ?_
  show own_Go p e below _ (T1.setTop (mkF m 14 #[.val (.ref a), .val (.int n), .val (.ref b), .val (.int (0 : Int32)), .val (.int (0 : Int32)), .unset] [(.int (0 : Int32)), (.int (0 : Int32))]))
  refine own_go (fun _ => XS.icmpYes X1.here hx rfl (pc0 := 14) (pc' := 37) rfl (hb hby d2_14) rfl (XT.ii_ge_t (by decide)) (by decide) (by decide)) ?_
  show own_Go p e below _ (T1.setTop (mkF m 37 #[.val (.ref a), .val (.int n), .val (.ref b), .val (.int (0 : Int32)), .val (.int (0 : Int32)), .unset] []))
  refine own_go (fun _ => XS.aloadN X1.here hx rfl (hb hby d2_37) rfl rfl) ?_
  show own_Go p e below _ (T1.setTop (mkF m 38 #[.val (.ref a), .val (.int n), .val (.ref b), .val (.int (0 : Int32)), .val (.int (0 : Int32)), .unset] [(.ref a)]))
  obtain ⟨T2, X2, e2, st2⟩ := getF X1 hx hZ hown (host := "") (Or.inl (hw _ (List.mem_of_getElem? (i := 13) rfl))) Via.refl e1 fl (g := (mkF m 38 #[.val (.ref a), .val (.int n), .val (.ref b), .val (.int (0 : Int32)), .val (.int (0 : Int32)), .unset] [(.ref a)])) rfl rfl (hb hby d2_38)
  refine own_go st2 ?_
  show own_Go p e below _ (T2.setTop (mkF m 41 #[.val (.ref a), .val (.int n), .val (.ref b), .val (.int (0 : Int32)), .val (.int (0 : Int32)), .unset] [(.ref b)]))
  refine own_go (own_len X2 hx hZ e2 av (g := (mkF m 41 #[.val (.ref a), .val (.int n), .val (.ref b), .val (.int (0 : Int32)), .val (.int (0 : Int32)), .unset] [(.ref b)])) rfl rfl (hb hby d2_41) (0 : Int32) rfl) ?_
  show own_Go p e below _ (T2.setTop (mkF m 42 #[.val (.ref a), .val (.int n), .val (.ref b), .val (.int (0 : Int32)), .val (.int (0 : Int32)), .unset] [(.int (0 : Int32))]))
  refine own_go (fun _ => XS.ifNo X2.here hx rfl (hb hby d2_42) rfl (XT.i0_ne_f (by decide))) ?_
  show own_Go p e below _ (T2.setTop (mkF m 45 #[.val (.ref a), .val (.int n), .val (.ref b), .val (.int (0 : Int32)), .val (.int (0 : Int32)), .unset] []))
  refine own_go (fun _ => XS.iconst X2.here hx rfl (hb hby d2_45)) ?_
  show own_Go p e below _ (T2.setTop (mkF m 46 #[.val (.ref a), .val (.int n), .val (.ref b), .val (.int (0 : Int32)), .val (.int (0 : Int32)), .unset] [(.int (1 : Int32))]))
  refine own_go (fun _ => XS.goto X2.here hx rfl (pc0 := 46) (pc' := 50) rfl (hb hby d2_46) (by decide) (by decide)) ?_
  show own_Go p e below _ (T2.setTop (mkF m 50 #[.val (.ref a), .val (.int n), .val (.ref b), .val (.int (0 : Int32)), .val (.int (0 : Int32)), .unset] [(.int (1 : Int32))]))
  exact own_iret X2 hx hlk hret (Or.inr (Or.inl rfl)) rfl (hb hby d2_50) (Nat.zero_le _) (Nat.zero_le _) ⟨rfl, e2, rfl⟩
set_option maxRecDepth 65536 in
set_option maxHeartbeats 40000000 in
theorem own_holds1_con (l : Launch) (Z : State) (a0 : Array Value) (hw : ∀ d ∈ tables_1, d.before a0 Z = true) (a b : Addr) (n : Int32) (y0 : Int32) (h0 : Heap) (fl : Fld Z h0 a "com/example/jadeite/jadeite/formats/BinaryFormat" "lengths" "[I" (.ref b)) (av : own_AV Z h0 b .int [.int y0]) (ws : List Jvm.Cond) :
    own_Con l Z (⟨"com/example/jadeite/jadeite/formats/BinaryFormat", "holds", "(I)Z"⟩ : MethodName) prog_18_method_8_code 6 (some .boolean) ({ frames := 0, cells := 0, slots := 0, locals := 0 } : Room) #[(.ref a), (.int n)] h0 (own_PQ h0 (.int (if y0 = n then (1 : Int32) else (0 : Int32)))) ws := by
  refine own_con (F := fun m => (mkF m 0 #[.val (.ref a), .val (.int n), .unset, .unset, .unset, .unset] [])) (own_pn (by first | (simp [plainName, overriddenIn]; done) | decide +kernel)) (fun m => by first | (simp [entryFrame, mkF, argsToLocals, Value.category]; done) | rfl) ?_
  intro p e s m below meth c T X hx hby hml hZ hown hnm hret hlk eT
  show own_Go p e below (own_Out s (own_PQ h0 (.int (if y0 = n then (1 : Int32) else (0 : Int32)))) ({ frames := 0, cells := 0, slots := 0, locals := 0 } : Room).cells ({ frames := 0, cells := 0, slots := 0, locals := 0 } : Room).slots) (T.setTop (mkF m 0 #[.val (.ref a), .val (.int n), .unset, .unset, .unset, .unset] []))
  refine own_go (fun _ => XS.aloadN X.here hx rfl (hb hby d2_0) rfl rfl) ?_
  show own_Go p e below _ (T.setTop (mkF m 1 #[.val (.ref a), .val (.int n), .unset, .unset, .unset, .unset] [(.ref a)]))
  obtain ⟨T1, X1, e1, st1⟩ := getF X hx hZ hown (host := "") (Or.inl (hw _ (List.mem_of_getElem? (i := 13) rfl))) Via.refl eT fl (g := (mkF m 1 #[.val (.ref a), .val (.int n), .unset, .unset, .unset, .unset] [(.ref a)])) rfl rfl (hb hby d2_1)
  refine own_go st1 ?_
  show own_Go p e below _ (T1.setTop (mkF m 4 #[.val (.ref a), .val (.int n), .unset, .unset, .unset, .unset] [(.ref b)]))
  refine own_go (fun _ => XS.astoreN X1.here hx rfl (hb hby d2_4) rfl rfl (l' := #[.val (.ref a), .val (.int n), .val (.ref b), .unset, .unset, .unset]) rfl) ?_
  show own_Go p e below _ (T1.setTop (mkF m 5 #[.val (.ref a), .val (.int n), .val (.ref b), .unset, .unset, .unset] []))
  refine own_go (fun _ => XS.aloadN X1.here hx rfl (hb hby d2_5) rfl rfl) ?_
  show own_Go p e below _ (T1.setTop (mkF m 6 #[.val (.ref a), .val (.int n), .val (.ref b), .unset, .unset, .unset] [(.ref b)]))
  refine own_go (own_len X1 hx hZ e1 av (g := (mkF m 6 #[.val (.ref a), .val (.int n), .val (.ref b), .unset, .unset, .unset] [(.ref b)])) rfl rfl (hb hby d2_6) (1 : Int32) rfl) ?_
  show own_Go p e below _ (T1.setTop (mkF m 7 #[.val (.ref a), .val (.int n), .val (.ref b), .unset, .unset, .unset] [(.int (1 : Int32))]))
  refine own_go (fun _ => XS.istoreN X1.here hx rfl (hb hby d2_7) rfl (l' := #[.val (.ref a), .val (.int n), .val (.ref b), .val (.int (1 : Int32)), .unset, .unset]) rfl) ?_
  show own_Go p e below _ (T1.setTop (mkF m 8 #[.val (.ref a), .val (.int n), .val (.ref b), .val (.int (1 : Int32)), .unset, .unset] []))
  refine own_go (fun _ => XS.iconst X1.here hx rfl (hb hby d2_8)) ?_
  show own_Go p e below _ (T1.setTop (mkF m 9 #[.val (.ref a), .val (.int n), .val (.ref b), .val (.int (1 : Int32)), .unset, .unset] [(.int (0 : Int32))]))
  refine own_go (fun _ => XS.istore X1.here hx rfl (hb hby d2_9) rfl (l' := #[.val (.ref a), .val (.int n), .val (.ref b), .val (.int (1 : Int32)), .val (.int (0 : Int32)), .unset]) rfl) ?_
  show own_Go p e below _ (T1.setTop (mkF m 11 #[.val (.ref a), .val (.int n), .val (.ref b), .val (.int (1 : Int32)), .val (.int (0 : Int32)), .unset] []))
  refine own_go (fun _ => XS.iload X1.here hx rfl (hb hby d2_11) rfl) ?_
  show own_Go p e below _ (T1.setTop (mkF m 13 #[.val (.ref a), .val (.int n), .val (.ref b), .val (.int (1 : Int32)), .val (.int (0 : Int32)), .unset] [(.int (0 : Int32))]))
  refine own_go (fun _ => XS.iloadN X1.here hx rfl (hb hby d2_13) rfl) ?_
  show own_Go p e below _ (T1.setTop (mkF m 14 #[.val (.ref a), .val (.int n), .val (.ref b), .val (.int (1 : Int32)), .val (.int (0 : Int32)), .unset] [(.int (1 : Int32)), (.int (0 : Int32))]))
  refine own_go (fun _ => XS.icmpNo X1.here hx rfl (hb hby d2_14) rfl (XT.ii_ge_f (by decide))) ?_
  show own_Go p e below _ (T1.setTop (mkF m 17 #[.val (.ref a), .val (.int n), .val (.ref b), .val (.int (1 : Int32)), .val (.int (0 : Int32)), .unset] []))
  refine own_go (fun _ => XS.aloadN X1.here hx rfl (hb hby d2_17) rfl rfl) ?_
  show own_Go p e below _ (T1.setTop (mkF m 18 #[.val (.ref a), .val (.int n), .val (.ref b), .val (.int (1 : Int32)), .val (.int (0 : Int32)), .unset] [(.ref b)]))
  refine own_go (fun _ => XS.iload X1.here hx rfl (hb hby d2_18) rfl) ?_
  show own_Go p e below _ (T1.setTop (mkF m 20 #[.val (.ref a), .val (.int n), .val (.ref b), .val (.int (1 : Int32)), .val (.int (0 : Int32)), .unset] [(.int (0 : Int32)), (.ref b)]))
  refine own_go (own_ldI X1 hx hZ e1 av (g := (mkF m 20 #[.val (.ref a), .val (.int n), .val (.ref b), .val (.int (1 : Int32)), .val (.int (0 : Int32)), .unset] [(.int (0 : Int32)), (.ref b)])) rfl rfl (hb hby d2_20) 0 (by decide) (x := (.int y0)) rfl) ?_
  show own_Go p e below _ (T1.setTop (mkF m 21 #[.val (.ref a), .val (.int n), .val (.ref b), .val (.int (1 : Int32)), .val (.int (0 : Int32)), .unset] [(.int y0)]))
  refine own_go (fun _ => XS.istore X1.here hx rfl (hb hby d2_21) rfl (l' := #[.val (.ref a), .val (.int n), .val (.ref b), .val (.int (1 : Int32)), .val (.int (0 : Int32)), .val (.int y0)]) rfl) ?_
  show own_Go p e below _ (T1.setTop (mkF m 23 #[.val (.ref a), .val (.int n), .val (.ref b), .val (.int (1 : Int32)), .val (.int (0 : Int32)), .val (.int y0)] []))
  refine own_go (fun _ => XS.iload X1.here hx rfl (hb hby d2_23) rfl) ?_
  show own_Go p e below _ (T1.setTop (mkF m 25 #[.val (.ref a), .val (.int n), .val (.ref b), .val (.int (1 : Int32)), .val (.int (0 : Int32)), .val (.int y0)] [(.int y0)]))
  refine own_go (fun _ => XS.iloadN X1.here hx rfl (hb hby d2_25) rfl) ?_
  show own_Go p e below _ (T1.setTop (mkF m 26 #[.val (.ref a), .val (.int n), .val (.ref b), .val (.int (1 : Int32)), .val (.int (0 : Int32)), .val (.int y0)] [(.int n), (.int y0)]))
  refine own_iteI (fun hc0 => ?_) (fun hc0 => ?_)
  · skip
    refine own_go (fun _ => XS.icmpNo X1.here hx rfl (hb hby d2_26) rfl (XT.ii_ne_f hc0)) ?_
    show own_Go p e below _ (T1.setTop (mkF m 29 #[.val (.ref a), .val (.int n), .val (.ref b), .val (.int (1 : Int32)), .val (.int (0 : Int32)), .val (.int y0)] []))
    refine own_go (fun _ => XS.iconst X1.here hx rfl (hb hby d2_29)) ?_
    show own_Go p e below _ (T1.setTop (mkF m 30 #[.val (.ref a), .val (.int n), .val (.ref b), .val (.int (1 : Int32)), .val (.int (0 : Int32)), .val (.int y0)] [(.int (1 : Int32))]))
    exact own_iret X1 hx hlk hret (Or.inr (Or.inl rfl)) rfl (hb hby d2_30) (Nat.zero_le _) (Nat.zero_le _) ⟨rfl, e1, rfl⟩
  refine own_go (fun _ => XS.icmpYes X1.here hx rfl (pc0 := 26) (pc' := 31) rfl (hb hby d2_26) rfl (XT.ii_ne_t hc0) (by decide) (by decide)) ?_
  show own_Go p e below _ (T1.setTop (mkF m 31 #[.val (.ref a), .val (.int n), .val (.ref b), .val (.int (1 : Int32)), .val (.int (0 : Int32)), .val (.int y0)] []))
  refine own_go (fun _ => XT.iincV X1.here hx rfl (1 : Int32) (hb hby d2_31) rfl rfl (l' := #[.val (.ref a), .val (.int n), .val (.ref b), .val (.int (1 : Int32)), .val (.int ((0 : Int32) + (1 : Int32))), .val (.int y0)]) rfl) ?_
  show own_Go p e below _ (T1.setTop (mkF m 34 #[.val (.ref a), .val (.int n), .val (.ref b), .val (.int (1 : Int32)), .val (.int ((0 : Int32) + (1 : Int32))), .val (.int y0)] []))
  refine own_go (fun _ => XS.goto X1.here hx rfl (pc0 := 34) (pc' := 11) rfl (hb hby d2_34) (by decide) (by decide)) ?_
  show own_Go p e below _ (T1.setTop (mkF m 11 #[.val (.ref a), .val (.int n), .val (.ref b), .val (.int (1 : Int32)), .val (.int ((0 : Int32) + (1 : Int32))), .val (.int y0)] []))
  refine own_go (fun _ => XS.iload X1.here hx rfl (hb hby d2_11) rfl) ?_
  show own_Go p e below _ (T1.setTop (mkF m 13 #[.val (.ref a), .val (.int n), .val (.ref b), .val (.int (1 : Int32)), .val (.int ((0 : Int32) + (1 : Int32))), .val (.int y0)] [(.int ((0 : Int32) + (1 : Int32)))]))
  refine own_go (fun _ => XS.iloadN X1.here hx rfl (hb hby d2_13) rfl) ?_
  show own_Go p e below _ (T1.setTop (mkF m 14 #[.val (.ref a), .val (.int n), .val (.ref b), .val (.int (1 : Int32)), .val (.int ((0 : Int32) + (1 : Int32))), .val (.int y0)] [(.int (1 : Int32)), (.int ((0 : Int32) + (1 : Int32)))]))
  refine own_go (fun _ => XS.icmpYes X1.here hx rfl (pc0 := 14) (pc' := 37) rfl (hb hby d2_14) rfl (XT.ii_ge_t (by decide)) (by decide) (by decide)) ?_
  show own_Go p e below _ (T1.setTop (mkF m 37 #[.val (.ref a), .val (.int n), .val (.ref b), .val (.int (1 : Int32)), .val (.int ((0 : Int32) + (1 : Int32))), .val (.int y0)] []))
  refine own_go (fun _ => XS.aloadN X1.here hx rfl (hb hby d2_37) rfl rfl) ?_
  show own_Go p e below _ (T1.setTop (mkF m 38 #[.val (.ref a), .val (.int n), .val (.ref b), .val (.int (1 : Int32)), .val (.int ((0 : Int32) + (1 : Int32))), .val (.int y0)] [(.ref a)]))
  obtain ⟨T2, X2, e2, st2⟩ := getF X1 hx hZ hown (host := "") (Or.inl (hw _ (List.mem_of_getElem? (i := 13) rfl))) Via.refl e1 fl (g := (mkF m 38 #[.val (.ref a), .val (.int n), .val (.ref b), .val (.int (1 : Int32)), .val (.int ((0 : Int32) + (1 : Int32))), .val (.int y0)] [(.ref a)])) rfl rfl (hb hby d2_38)
  refine own_go st2 ?_
  show own_Go p e below _ (T2.setTop (mkF m 41 #[.val (.ref a), .val (.int n), .val (.ref b), .val (.int (1 : Int32)), .val (.int ((0 : Int32) + (1 : Int32))), .val (.int y0)] [(.ref b)]))
  refine own_go (own_len X2 hx hZ e2 av (g := (mkF m 41 #[.val (.ref a), .val (.int n), .val (.ref b), .val (.int (1 : Int32)), .val (.int ((0 : Int32) + (1 : Int32))), .val (.int y0)] [(.ref b)])) rfl rfl (hb hby d2_41) (1 : Int32) rfl) ?_
  show own_Go p e below _ (T2.setTop (mkF m 42 #[.val (.ref a), .val (.int n), .val (.ref b), .val (.int (1 : Int32)), .val (.int ((0 : Int32) + (1 : Int32))), .val (.int y0)] [(.int (1 : Int32))]))
  refine own_go (fun _ => XS.ifYes X2.here hx rfl (pc0 := 42) (pc' := 49) rfl (hb hby d2_42) rfl (XT.i0_ne_t (by decide)) (by decide) (by decide)) ?_
  show own_Go p e below _ (T2.setTop (mkF m 49 #[.val (.ref a), .val (.int n), .val (.ref b), .val (.int (1 : Int32)), .val (.int ((0 : Int32) + (1 : Int32))), .val (.int y0)] []))
  refine own_go (fun _ => XS.iconst X2.here hx rfl (hb hby d2_49)) ?_
  show own_Go p e below _ (T2.setTop (mkF m 50 #[.val (.ref a), .val (.int n), .val (.ref b), .val (.int (1 : Int32)), .val (.int ((0 : Int32) + (1 : Int32))), .val (.int y0)] [(.int (0 : Int32))]))
  exact own_iret X2 hx hlk hret (Or.inr (Or.inl rfl)) rfl (hb hby d2_50) (Nat.zero_le _) (Nat.zero_le _) ⟨rfl, e2, rfl⟩
set_option maxRecDepth 65536 in
set_option maxHeartbeats 40000000 in
theorem own_holds2_con (l : Launch) (Z : State) (a0 : Array Value) (hw : ∀ d ∈ tables_1, d.before a0 Z = true) (a b : Addr) (n : Int32) (y0 y1 : Int32) (h0 : Heap) (fl : Fld Z h0 a "com/example/jadeite/jadeite/formats/BinaryFormat" "lengths" "[I" (.ref b)) (av : own_AV Z h0 b .int [.int y0, .int y1]) (ws : List Jvm.Cond) :
    own_Con l Z (⟨"com/example/jadeite/jadeite/formats/BinaryFormat", "holds", "(I)Z"⟩ : MethodName) prog_18_method_8_code 6 (some .boolean) ({ frames := 0, cells := 0, slots := 0, locals := 0 } : Room) #[(.ref a), (.int n)] h0 (own_PQ h0 (.int (if y0 = n then (1 : Int32) else (if y1 = n then (1 : Int32) else (0 : Int32))))) ws := by
  refine own_con (F := fun m => (mkF m 0 #[.val (.ref a), .val (.int n), .unset, .unset, .unset, .unset] [])) (own_pn (by first | (simp [plainName, overriddenIn]; done) | decide +kernel)) (fun m => by first | (simp [entryFrame, mkF, argsToLocals, Value.category]; done) | rfl) ?_
  intro p e s m below meth c T X hx hby hml hZ hown hnm hret hlk eT
  show own_Go p e below (own_Out s (own_PQ h0 (.int (if y0 = n then (1 : Int32) else (if y1 = n then (1 : Int32) else (0 : Int32))))) ({ frames := 0, cells := 0, slots := 0, locals := 0 } : Room).cells ({ frames := 0, cells := 0, slots := 0, locals := 0 } : Room).slots) (T.setTop (mkF m 0 #[.val (.ref a), .val (.int n), .unset, .unset, .unset, .unset] []))
  refine own_go (fun _ => XS.aloadN X.here hx rfl (hb hby d2_0) rfl rfl) ?_
  show own_Go p e below _ (T.setTop (mkF m 1 #[.val (.ref a), .val (.int n), .unset, .unset, .unset, .unset] [(.ref a)]))
  obtain ⟨T1, X1, e1, st1⟩ := getF X hx hZ hown (host := "") (Or.inl (hw _ (List.mem_of_getElem? (i := 13) rfl))) Via.refl eT fl (g := (mkF m 1 #[.val (.ref a), .val (.int n), .unset, .unset, .unset, .unset] [(.ref a)])) rfl rfl (hb hby d2_1)
  refine own_go st1 ?_
  show own_Go p e below _ (T1.setTop (mkF m 4 #[.val (.ref a), .val (.int n), .unset, .unset, .unset, .unset] [(.ref b)]))
  refine own_go (fun _ => XS.astoreN X1.here hx rfl (hb hby d2_4) rfl rfl (l' := #[.val (.ref a), .val (.int n), .val (.ref b), .unset, .unset, .unset]) rfl) ?_
  show own_Go p e below _ (T1.setTop (mkF m 5 #[.val (.ref a), .val (.int n), .val (.ref b), .unset, .unset, .unset] []))
  refine own_go (fun _ => XS.aloadN X1.here hx rfl (hb hby d2_5) rfl rfl) ?_
  show own_Go p e below _ (T1.setTop (mkF m 6 #[.val (.ref a), .val (.int n), .val (.ref b), .unset, .unset, .unset] [(.ref b)]))
  refine own_go (own_len X1 hx hZ e1 av (g := (mkF m 6 #[.val (.ref a), .val (.int n), .val (.ref b), .unset, .unset, .unset] [(.ref b)])) rfl rfl (hb hby d2_6) (2 : Int32) rfl) ?_
  show own_Go p e below _ (T1.setTop (mkF m 7 #[.val (.ref a), .val (.int n), .val (.ref b), .unset, .unset, .unset] [(.int (2 : Int32))]))
  refine own_go (fun _ => XS.istoreN X1.here hx rfl (hb hby d2_7) rfl (l' := #[.val (.ref a), .val (.int n), .val (.ref b), .val (.int (2 : Int32)), .unset, .unset]) rfl) ?_
  show own_Go p e below _ (T1.setTop (mkF m 8 #[.val (.ref a), .val (.int n), .val (.ref b), .val (.int (2 : Int32)), .unset, .unset] []))
  refine own_go (fun _ => XS.iconst X1.here hx rfl (hb hby d2_8)) ?_
  show own_Go p e below _ (T1.setTop (mkF m 9 #[.val (.ref a), .val (.int n), .val (.ref b), .val (.int (2 : Int32)), .unset, .unset] [(.int (0 : Int32))]))
  refine own_go (fun _ => XS.istore X1.here hx rfl (hb hby d2_9) rfl (l' := #[.val (.ref a), .val (.int n), .val (.ref b), .val (.int (2 : Int32)), .val (.int (0 : Int32)), .unset]) rfl) ?_
  show own_Go p e below _ (T1.setTop (mkF m 11 #[.val (.ref a), .val (.int n), .val (.ref b), .val (.int (2 : Int32)), .val (.int (0 : Int32)), .unset] []))
  refine own_go (fun _ => XS.iload X1.here hx rfl (hb hby d2_11) rfl) ?_
  show own_Go p e below _ (T1.setTop (mkF m 13 #[.val (.ref a), .val (.int n), .val (.ref b), .val (.int (2 : Int32)), .val (.int (0 : Int32)), .unset] [(.int (0 : Int32))]))
  refine own_go (fun _ => XS.iloadN X1.here hx rfl (hb hby d2_13) rfl) ?_
  show own_Go p e below _ (T1.setTop (mkF m 14 #[.val (.ref a), .val (.int n), .val (.ref b), .val (.int (2 : Int32)), .val (.int (0 : Int32)), .unset] [(.int (2 : Int32)), (.int (0 : Int32))]))
  refine own_go (fun _ => XS.icmpNo X1.here hx rfl (hb hby d2_14) rfl (XT.ii_ge_f (by decide))) ?_
  show own_Go p e below _ (T1.setTop (mkF m 17 #[.val (.ref a), .val (.int n), .val (.ref b), .val (.int (2 : Int32)), .val (.int (0 : Int32)), .unset] []))
  refine own_go (fun _ => XS.aloadN X1.here hx rfl (hb hby d2_17) rfl rfl) ?_
  show own_Go p e below _ (T1.setTop (mkF m 18 #[.val (.ref a), .val (.int n), .val (.ref b), .val (.int (2 : Int32)), .val (.int (0 : Int32)), .unset] [(.ref b)]))
  refine own_go (fun _ => XS.iload X1.here hx rfl (hb hby d2_18) rfl) ?_
  show own_Go p e below _ (T1.setTop (mkF m 20 #[.val (.ref a), .val (.int n), .val (.ref b), .val (.int (2 : Int32)), .val (.int (0 : Int32)), .unset] [(.int (0 : Int32)), (.ref b)]))
  refine own_go (own_ldI X1 hx hZ e1 av (g := (mkF m 20 #[.val (.ref a), .val (.int n), .val (.ref b), .val (.int (2 : Int32)), .val (.int (0 : Int32)), .unset] [(.int (0 : Int32)), (.ref b)])) rfl rfl (hb hby d2_20) 0 (by decide) (x := (.int y0)) rfl) ?_
  show own_Go p e below _ (T1.setTop (mkF m 21 #[.val (.ref a), .val (.int n), .val (.ref b), .val (.int (2 : Int32)), .val (.int (0 : Int32)), .unset] [(.int y0)]))
  refine own_go (fun _ => XS.istore X1.here hx rfl (hb hby d2_21) rfl (l' := #[.val (.ref a), .val (.int n), .val (.ref b), .val (.int (2 : Int32)), .val (.int (0 : Int32)), .val (.int y0)]) rfl) ?_
  show own_Go p e below _ (T1.setTop (mkF m 23 #[.val (.ref a), .val (.int n), .val (.ref b), .val (.int (2 : Int32)), .val (.int (0 : Int32)), .val (.int y0)] []))
  refine own_go (fun _ => XS.iload X1.here hx rfl (hb hby d2_23) rfl) ?_
  show own_Go p e below _ (T1.setTop (mkF m 25 #[.val (.ref a), .val (.int n), .val (.ref b), .val (.int (2 : Int32)), .val (.int (0 : Int32)), .val (.int y0)] [(.int y0)]))
  refine own_go (fun _ => XS.iloadN X1.here hx rfl (hb hby d2_25) rfl) ?_
  show own_Go p e below _ (T1.setTop (mkF m 26 #[.val (.ref a), .val (.int n), .val (.ref b), .val (.int (2 : Int32)), .val (.int (0 : Int32)), .val (.int y0)] [(.int n), (.int y0)]))
  refine own_iteI (fun hc0 => ?_) (fun hc0 => ?_)
  · skip
    refine own_go (fun _ => XS.icmpNo X1.here hx rfl (hb hby d2_26) rfl (XT.ii_ne_f hc0)) ?_
    show own_Go p e below _ (T1.setTop (mkF m 29 #[.val (.ref a), .val (.int n), .val (.ref b), .val (.int (2 : Int32)), .val (.int (0 : Int32)), .val (.int y0)] []))
    refine own_go (fun _ => XS.iconst X1.here hx rfl (hb hby d2_29)) ?_
    show own_Go p e below _ (T1.setTop (mkF m 30 #[.val (.ref a), .val (.int n), .val (.ref b), .val (.int (2 : Int32)), .val (.int (0 : Int32)), .val (.int y0)] [(.int (1 : Int32))]))
    exact own_iret X1 hx hlk hret (Or.inr (Or.inl rfl)) rfl (hb hby d2_30) (Nat.zero_le _) (Nat.zero_le _) ⟨rfl, e1, rfl⟩
  refine own_go (fun _ => XS.icmpYes X1.here hx rfl (pc0 := 26) (pc' := 31) rfl (hb hby d2_26) rfl (XT.ii_ne_t hc0) (by decide) (by decide)) ?_
  show own_Go p e below _ (T1.setTop (mkF m 31 #[.val (.ref a), .val (.int n), .val (.ref b), .val (.int (2 : Int32)), .val (.int (0 : Int32)), .val (.int y0)] []))
  refine own_go (fun _ => XT.iincV X1.here hx rfl (1 : Int32) (hb hby d2_31) rfl rfl (l' := #[.val (.ref a), .val (.int n), .val (.ref b), .val (.int (2 : Int32)), .val (.int ((0 : Int32) + (1 : Int32))), .val (.int y0)]) rfl) ?_
  show own_Go p e below _ (T1.setTop (mkF m 34 #[.val (.ref a), .val (.int n), .val (.ref b), .val (.int (2 : Int32)), .val (.int ((0 : Int32) + (1 : Int32))), .val (.int y0)] []))
  refine own_go (fun _ => XS.goto X1.here hx rfl (pc0 := 34) (pc' := 11) rfl (hb hby d2_34) (by decide) (by decide)) ?_
  show own_Go p e below _ (T1.setTop (mkF m 11 #[.val (.ref a), .val (.int n), .val (.ref b), .val (.int (2 : Int32)), .val (.int ((0 : Int32) + (1 : Int32))), .val (.int y0)] []))
  refine own_go (fun _ => XS.iload X1.here hx rfl (hb hby d2_11) rfl) ?_
  show own_Go p e below _ (T1.setTop (mkF m 13 #[.val (.ref a), .val (.int n), .val (.ref b), .val (.int (2 : Int32)), .val (.int ((0 : Int32) + (1 : Int32))), .val (.int y0)] [(.int ((0 : Int32) + (1 : Int32)))]))
  refine own_go (fun _ => XS.iloadN X1.here hx rfl (hb hby d2_13) rfl) ?_
  show own_Go p e below _ (T1.setTop (mkF m 14 #[.val (.ref a), .val (.int n), .val (.ref b), .val (.int (2 : Int32)), .val (.int ((0 : Int32) + (1 : Int32))), .val (.int y0)] [(.int (2 : Int32)), (.int ((0 : Int32) + (1 : Int32)))]))
  refine own_go (fun _ => XS.icmpNo X1.here hx rfl (hb hby d2_14) rfl (XT.ii_ge_f (by decide))) ?_
  show own_Go p e below _ (T1.setTop (mkF m 17 #[.val (.ref a), .val (.int n), .val (.ref b), .val (.int (2 : Int32)), .val (.int ((0 : Int32) + (1 : Int32))), .val (.int y0)] []))
  refine own_go (fun _ => XS.aloadN X1.here hx rfl (hb hby d2_17) rfl rfl) ?_
  show own_Go p e below _ (T1.setTop (mkF m 18 #[.val (.ref a), .val (.int n), .val (.ref b), .val (.int (2 : Int32)), .val (.int ((0 : Int32) + (1 : Int32))), .val (.int y0)] [(.ref b)]))
  refine own_go (fun _ => XS.iload X1.here hx rfl (hb hby d2_18) rfl) ?_
  show own_Go p e below _ (T1.setTop (mkF m 20 #[.val (.ref a), .val (.int n), .val (.ref b), .val (.int (2 : Int32)), .val (.int ((0 : Int32) + (1 : Int32))), .val (.int y0)] [(.int ((0 : Int32) + (1 : Int32))), (.ref b)]))
  refine own_go (own_ldI X1 hx hZ e1 av (g := (mkF m 20 #[.val (.ref a), .val (.int n), .val (.ref b), .val (.int (2 : Int32)), .val (.int ((0 : Int32) + (1 : Int32))), .val (.int y0)] [(.int ((0 : Int32) + (1 : Int32))), (.ref b)])) rfl rfl (hb hby d2_20) 1 (by decide) (x := (.int y1)) rfl) ?_
  show own_Go p e below _ (T1.setTop (mkF m 21 #[.val (.ref a), .val (.int n), .val (.ref b), .val (.int (2 : Int32)), .val (.int ((0 : Int32) + (1 : Int32))), .val (.int y0)] [(.int y1)]))
  refine own_go (fun _ => XS.istore X1.here hx rfl (hb hby d2_21) rfl (l' := #[.val (.ref a), .val (.int n), .val (.ref b), .val (.int (2 : Int32)), .val (.int ((0 : Int32) + (1 : Int32))), .val (.int y1)]) rfl) ?_
  show own_Go p e below _ (T1.setTop (mkF m 23 #[.val (.ref a), .val (.int n), .val (.ref b), .val (.int (2 : Int32)), .val (.int ((0 : Int32) + (1 : Int32))), .val (.int y1)] []))
  refine own_go (fun _ => XS.iload X1.here hx rfl (hb hby d2_23) rfl) ?_
  show own_Go p e below _ (T1.setTop (mkF m 25 #[.val (.ref a), .val (.int n), .val (.ref b), .val (.int (2 : Int32)), .val (.int ((0 : Int32) + (1 : Int32))), .val (.int y1)] [(.int y1)]))
  refine own_go (fun _ => XS.iloadN X1.here hx rfl (hb hby d2_25) rfl) ?_
  show own_Go p e below _ (T1.setTop (mkF m 26 #[.val (.ref a), .val (.int n), .val (.ref b), .val (.int (2 : Int32)), .val (.int ((0 : Int32) + (1 : Int32))), .val (.int y1)] [(.int n), (.int y1)]))
  refine own_iteI (fun hc1 => ?_) (fun hc1 => ?_)
  · skip
    refine own_go (fun _ => XS.icmpNo X1.here hx rfl (hb hby d2_26) rfl (XT.ii_ne_f hc1)) ?_
    show own_Go p e below _ (T1.setTop (mkF m 29 #[.val (.ref a), .val (.int n), .val (.ref b), .val (.int (2 : Int32)), .val (.int ((0 : Int32) + (1 : Int32))), .val (.int y1)] []))
    refine own_go (fun _ => XS.iconst X1.here hx rfl (hb hby d2_29)) ?_
    show own_Go p e below _ (T1.setTop (mkF m 30 #[.val (.ref a), .val (.int n), .val (.ref b), .val (.int (2 : Int32)), .val (.int ((0 : Int32) + (1 : Int32))), .val (.int y1)] [(.int (1 : Int32))]))
    exact own_iret X1 hx hlk hret (Or.inr (Or.inl rfl)) rfl (hb hby d2_30) (Nat.zero_le _) (Nat.zero_le _) ⟨rfl, e1, rfl⟩
  refine own_go (fun _ => XS.icmpYes X1.here hx rfl (pc0 := 26) (pc' := 31) rfl (hb hby d2_26) rfl (XT.ii_ne_t hc1) (by decide) (by decide)) ?_
  show own_Go p e below _ (T1.setTop (mkF m 31 #[.val (.ref a), .val (.int n), .val (.ref b), .val (.int (2 : Int32)), .val (.int ((0 : Int32) + (1 : Int32))), .val (.int y1)] []))
  refine own_go (fun _ => XT.iincV X1.here hx rfl (1 : Int32) (hb hby d2_31) rfl rfl (l' := #[.val (.ref a), .val (.int n), .val (.ref b), .val (.int (2 : Int32)), .val (.int (((0 : Int32) + (1 : Int32)) + (1 : Int32))), .val (.int y1)]) rfl) ?_
  show own_Go p e below _ (T1.setTop (mkF m 34 #[.val (.ref a), .val (.int n), .val (.ref b), .val (.int (2 : Int32)), .val (.int (((0 : Int32) + (1 : Int32)) + (1 : Int32))), .val (.int y1)] []))
  refine own_go (fun _ => XS.goto X1.here hx rfl (pc0 := 34) (pc' := 11) rfl (hb hby d2_34) (by decide) (by decide)) ?_
  show own_Go p e below _ (T1.setTop (mkF m 11 #[.val (.ref a), .val (.int n), .val (.ref b), .val (.int (2 : Int32)), .val (.int (((0 : Int32) + (1 : Int32)) + (1 : Int32))), .val (.int y1)] []))
  refine own_go (fun _ => XS.iload X1.here hx rfl (hb hby d2_11) rfl) ?_
  show own_Go p e below _ (T1.setTop (mkF m 13 #[.val (.ref a), .val (.int n), .val (.ref b), .val (.int (2 : Int32)), .val (.int (((0 : Int32) + (1 : Int32)) + (1 : Int32))), .val (.int y1)] [(.int (((0 : Int32) + (1 : Int32)) + (1 : Int32)))]))
  refine own_go (fun _ => XS.iloadN X1.here hx rfl (hb hby d2_13) rfl) ?_
  show own_Go p e below _ (T1.setTop (mkF m 14 #[.val (.ref a), .val (.int n), .val (.ref b), .val (.int (2 : Int32)), .val (.int (((0 : Int32) + (1 : Int32)) + (1 : Int32))), .val (.int y1)] [(.int (2 : Int32)), (.int (((0 : Int32) + (1 : Int32)) + (1 : Int32)))]))
  refine own_go (fun _ => XS.icmpYes X1.here hx rfl (pc0 := 14) (pc' := 37) rfl (hb hby d2_14) rfl (XT.ii_ge_t (by decide)) (by decide) (by decide)) ?_
  show own_Go p e below _ (T1.setTop (mkF m 37 #[.val (.ref a), .val (.int n), .val (.ref b), .val (.int (2 : Int32)), .val (.int (((0 : Int32) + (1 : Int32)) + (1 : Int32))), .val (.int y1)] []))
  refine own_go (fun _ => XS.aloadN X1.here hx rfl (hb hby d2_37) rfl rfl) ?_
  show own_Go p e below _ (T1.setTop (mkF m 38 #[.val (.ref a), .val (.int n), .val (.ref b), .val (.int (2 : Int32)), .val (.int (((0 : Int32) + (1 : Int32)) + (1 : Int32))), .val (.int y1)] [(.ref a)]))
  obtain ⟨T2, X2, e2, st2⟩ := getF X1 hx hZ hown (host := "") (Or.inl (hw _ (List.mem_of_getElem? (i := 13) rfl))) Via.refl e1 fl (g := (mkF m 38 #[.val (.ref a), .val (.int n), .val (.ref b), .val (.int (2 : Int32)), .val (.int (((0 : Int32) + (1 : Int32)) + (1 : Int32))), .val (.int y1)] [(.ref a)])) rfl rfl (hb hby d2_38)
  refine own_go st2 ?_
  show own_Go p e below _ (T2.setTop (mkF m 41 #[.val (.ref a), .val (.int n), .val (.ref b), .val (.int (2 : Int32)), .val (.int (((0 : Int32) + (1 : Int32)) + (1 : Int32))), .val (.int y1)] [(.ref b)]))
  refine own_go (own_len X2 hx hZ e2 av (g := (mkF m 41 #[.val (.ref a), .val (.int n), .val (.ref b), .val (.int (2 : Int32)), .val (.int (((0 : Int32) + (1 : Int32)) + (1 : Int32))), .val (.int y1)] [(.ref b)])) rfl rfl (hb hby d2_41) (2 : Int32) rfl) ?_
  show own_Go p e below _ (T2.setTop (mkF m 42 #[.val (.ref a), .val (.int n), .val (.ref b), .val (.int (2 : Int32)), .val (.int (((0 : Int32) + (1 : Int32)) + (1 : Int32))), .val (.int y1)] [(.int (2 : Int32))]))
  refine own_go (fun _ => XS.ifYes X2.here hx rfl (pc0 := 42) (pc' := 49) rfl (hb hby d2_42) rfl (XT.i0_ne_t (by decide)) (by decide) (by decide)) ?_
  show own_Go p e below _ (T2.setTop (mkF m 49 #[.val (.ref a), .val (.int n), .val (.ref b), .val (.int (2 : Int32)), .val (.int (((0 : Int32) + (1 : Int32)) + (1 : Int32))), .val (.int y1)] []))
  refine own_go (fun _ => XS.iconst X2.here hx rfl (hb hby d2_49)) ?_
  show own_Go p e below _ (T2.setTop (mkF m 50 #[.val (.ref a), .val (.int n), .val (.ref b), .val (.int (2 : Int32)), .val (.int (((0 : Int32) + (1 : Int32)) + (1 : Int32))), .val (.int y1)] [(.int (0 : Int32))]))
  exact own_iret X2 hx hlk hret (Or.inr (Or.inl rfl)) rfl (hb hby d2_50) (Nat.zero_le _) (Nat.zero_le _) ⟨rfl, e2, rfl⟩
theorem d1_0 : decode method_2_code 0 = .ok (.iload_n 0, 1) := by decide +kernel
theorem d1_1 : decode method_2_code 1 = .ok (.ifCond .ne 7, 3) := by decide +kernel
theorem d1_4 : decode method_2_code 4 = .ok (.getstatic 7, 3) := by decide +kernel
theorem d1_7 : decode method_2_code 7 = .ok (.areturn, 1) := by decide +kernel
theorem d1_8 : decode method_2_code 8 = .ok (.iload_n 0, 1) := by decide +kernel
theorem d1_9 : decode method_2_code 9 = .ok (.iconst 1, 1) := by decide +kernel
theorem d1_10 : decode method_2_code 10 = .ok (.if_icmp .ne 7, 3) := by decide +kernel
theorem d1_13 : decode method_2_code 13 = .ok (.getstatic 13, 3) := by decide +kernel
theorem d1_16 : decode method_2_code 16 = .ok (.areturn, 1) := by decide +kernel
theorem d1_17 : decode method_2_code 17 = .ok (.iload_n 0, 1) := by decide +kernel
theorem d1_18 : decode method_2_code 18 = .ok (.iconst 2, 1) := by decide +kernel
theorem d1_19 : decode method_2_code 19 = .ok (.if_icmp .ne 7, 3) := by decide +kernel
theorem d1_22 : decode method_2_code 22 = .ok (.getstatic 16, 3) := by decide +kernel
theorem d1_25 : decode method_2_code 25 = .ok (.areturn, 1) := by decide +kernel
theorem d1_26 : decode method_2_code 26 = .ok (.iload_n 0, 1) := by decide +kernel
theorem d1_27 : decode method_2_code 27 = .ok (.iconst 3, 1) := by decide +kernel
theorem d1_28 : decode method_2_code 28 = .ok (.if_icmp .ne 7, 3) := by decide +kernel
theorem d1_31 : decode method_2_code 31 = .ok (.getstatic 19, 3) := by decide +kernel
theorem d1_34 : decode method_2_code 34 = .ok (.areturn, 1) := by decide +kernel
theorem d1_35 : decode method_2_code 35 = .ok (.getstatic 22, 3) := by decide +kernel
theorem d1_38 : decode method_2_code 38 = .ok (.areturn, 1) := by decide +kernel
set_option maxRecDepth 65536 in
set_option maxHeartbeats 40000000 in
theorem own_pick0_con (l : Launch) (Z : State) (a0 : Array Value) (hw : ∀ d ∈ tables_1, d.before a0 Z = true) (a : Addr) (h0 : Heap) (st : Sta Z h0 "com/example/jadeite/jadeite/formats/BinaryFormat" "BASE64URL" "Lcom/example/jadeite/jadeite/formats/BinaryFormat;" (.ref a)) (ws : List Jvm.Cond) :
    own_Con l Z (⟨"com/example/jadeite/jadeite/formats/BinaryFormatHoldsPinLaw", "pick", "(I)Lcom/example/jadeite/jadeite/formats/BinaryFormat;"⟩ : MethodName) method_2_code 1 (some (.object "com/example/jadeite/jadeite/formats/BinaryFormat")) ({ frames := 0, cells := 0, slots := 0, locals := 0 } : Room) #[(.int (0 : Int32))] h0 (own_PQ h0 (.ref a)) ws := by
  refine own_con (F := fun m => (mkF m 0 #[.val (.int (0 : Int32))] [])) (own_pn (by first | (simp [plainName, overriddenIn]; done) | decide +kernel)) (fun m => by first | (simp [entryFrame, mkF, argsToLocals, Value.category]; done) | rfl) ?_
  intro p e s m below meth c T X hx hby hml hZ hown hnm hret hlk eT
  show own_Go p e below (own_Out s (own_PQ h0 (.ref a)) ({ frames := 0, cells := 0, slots := 0, locals := 0 } : Room).cells ({ frames := 0, cells := 0, slots := 0, locals := 0 } : Room).slots) (T.setTop (mkF m 0 #[.val (.int (0 : Int32))] []))
  refine own_go (fun _ => XS.iloadN X.here hx rfl (hb hby d1_0) rfl) ?_
  show own_Go p e below _ (T.setTop (mkF m 1 #[.val (.int (0 : Int32))] [(.int (0 : Int32))]))
  refine own_go (fun _ => XS.ifNo X.here hx rfl (hb hby d1_1) rfl (XT.i0_ne_f (by decide))) ?_
  show own_Go p e below _ (T.setTop (mkF m 4 #[.val (.int (0 : Int32))] []))
  obtain ⟨T1, X1, e1, st1⟩ := getS2 X hx hZ hown (host := "") (Or.inl (hw _ (List.mem_of_getElem? (i := 5) rfl))) Via.refl eT st (g := (mkF m 4 #[.val (.int (0 : Int32))] [])) rfl (hb hby d1_4)
  refine own_go st1 ?_
  show own_Go p e below _ (T1.setTop (mkF m 7 #[.val (.int (0 : Int32))] [(.ref a)]))
  exact own_aret X1 hx hlk hret rfl rfl (hb hby d1_7) (Nat.zero_le _) (Nat.zero_le _) ⟨rfl, e1, rfl⟩
set_option maxRecDepth 65536 in
set_option maxHeartbeats 40000000 in
theorem own_pick1_con (l : Launch) (Z : State) (a0 : Array Value) (hw : ∀ d ∈ tables_1, d.before a0 Z = true) (a : Addr) (h0 : Heap) (st : Sta Z h0 "com/example/jadeite/jadeite/formats/BinaryFormat" "HEX" "Lcom/example/jadeite/jadeite/formats/BinaryFormat;" (.ref a)) (ws : List Jvm.Cond) :
    own_Con l Z (⟨"com/example/jadeite/jadeite/formats/BinaryFormatHoldsPinLaw", "pick", "(I)Lcom/example/jadeite/jadeite/formats/BinaryFormat;"⟩ : MethodName) method_2_code 1 (some (.object "com/example/jadeite/jadeite/formats/BinaryFormat")) ({ frames := 0, cells := 0, slots := 0, locals := 0 } : Room) #[(.int (1 : Int32))] h0 (own_PQ h0 (.ref a)) ws := by
  refine own_con (F := fun m => (mkF m 0 #[.val (.int (1 : Int32))] [])) (own_pn (by first | (simp [plainName, overriddenIn]; done) | decide +kernel)) (fun m => by first | (simp [entryFrame, mkF, argsToLocals, Value.category]; done) | rfl) ?_
  intro p e s m below meth c T X hx hby hml hZ hown hnm hret hlk eT
  show own_Go p e below (own_Out s (own_PQ h0 (.ref a)) ({ frames := 0, cells := 0, slots := 0, locals := 0 } : Room).cells ({ frames := 0, cells := 0, slots := 0, locals := 0 } : Room).slots) (T.setTop (mkF m 0 #[.val (.int (1 : Int32))] []))
  refine own_go (fun _ => XS.iloadN X.here hx rfl (hb hby d1_0) rfl) ?_
  show own_Go p e below _ (T.setTop (mkF m 1 #[.val (.int (1 : Int32))] [(.int (1 : Int32))]))
  refine own_go (fun _ => XS.ifYes X.here hx rfl (pc0 := 1) (pc' := 8) rfl (hb hby d1_1) rfl (XT.i0_ne_t (by decide)) (by decide) (by decide)) ?_
  show own_Go p e below _ (T.setTop (mkF m 8 #[.val (.int (1 : Int32))] []))
  refine own_go (fun _ => XS.iloadN X.here hx rfl (hb hby d1_8) rfl) ?_
  show own_Go p e below _ (T.setTop (mkF m 9 #[.val (.int (1 : Int32))] [(.int (1 : Int32))]))
  refine own_go (fun _ => XS.iconst X.here hx rfl (hb hby d1_9)) ?_
  show own_Go p e below _ (T.setTop (mkF m 10 #[.val (.int (1 : Int32))] [(.int (1 : Int32)), (.int (1 : Int32))]))
  refine own_go (fun _ => XS.icmpNo X.here hx rfl (hb hby d1_10) rfl (XT.ii_ne_f (by decide))) ?_
  show own_Go p e below _ (T.setTop (mkF m 13 #[.val (.int (1 : Int32))] []))
  obtain ⟨T1, X1, e1, st1⟩ := getS2 X hx hZ hown (host := "") (Or.inl (hw _ (List.mem_of_getElem? (i := 22) rfl))) Via.refl eT st (g := (mkF m 13 #[.val (.int (1 : Int32))] [])) rfl (hb hby d1_13)
  refine own_go st1 ?_
  show own_Go p e below _ (T1.setTop (mkF m 16 #[.val (.int (1 : Int32))] [(.ref a)]))
  exact own_aret X1 hx hlk hret rfl rfl (hb hby d1_16) (Nat.zero_le _) (Nat.zero_le _) ⟨rfl, e1, rfl⟩
set_option maxRecDepth 65536 in
set_option maxHeartbeats 40000000 in
theorem own_pick2_con (l : Launch) (Z : State) (a0 : Array Value) (hw : ∀ d ∈ tables_1, d.before a0 Z = true) (a : Addr) (h0 : Heap) (st : Sta Z h0 "com/example/jadeite/jadeite/formats/BinaryFormat" "IPV4_ADDR" "Lcom/example/jadeite/jadeite/formats/BinaryFormat;" (.ref a)) (ws : List Jvm.Cond) :
    own_Con l Z (⟨"com/example/jadeite/jadeite/formats/BinaryFormatHoldsPinLaw", "pick", "(I)Lcom/example/jadeite/jadeite/formats/BinaryFormat;"⟩ : MethodName) method_2_code 1 (some (.object "com/example/jadeite/jadeite/formats/BinaryFormat")) ({ frames := 0, cells := 0, slots := 0, locals := 0 } : Room) #[(.int (2 : Int32))] h0 (own_PQ h0 (.ref a)) ws := by
  refine own_con (F := fun m => (mkF m 0 #[.val (.int (2 : Int32))] [])) (own_pn (by first | (simp [plainName, overriddenIn]; done) | decide +kernel)) (fun m => by first | (simp [entryFrame, mkF, argsToLocals, Value.category]; done) | rfl) ?_
  intro p e s m below meth c T X hx hby hml hZ hown hnm hret hlk eT
  show own_Go p e below (own_Out s (own_PQ h0 (.ref a)) ({ frames := 0, cells := 0, slots := 0, locals := 0 } : Room).cells ({ frames := 0, cells := 0, slots := 0, locals := 0 } : Room).slots) (T.setTop (mkF m 0 #[.val (.int (2 : Int32))] []))
  refine own_go (fun _ => XS.iloadN X.here hx rfl (hb hby d1_0) rfl) ?_
  show own_Go p e below _ (T.setTop (mkF m 1 #[.val (.int (2 : Int32))] [(.int (2 : Int32))]))
  refine own_go (fun _ => XS.ifYes X.here hx rfl (pc0 := 1) (pc' := 8) rfl (hb hby d1_1) rfl (XT.i0_ne_t (by decide)) (by decide) (by decide)) ?_
  show own_Go p e below _ (T.setTop (mkF m 8 #[.val (.int (2 : Int32))] []))
  refine own_go (fun _ => XS.iloadN X.here hx rfl (hb hby d1_8) rfl) ?_
  show own_Go p e below _ (T.setTop (mkF m 9 #[.val (.int (2 : Int32))] [(.int (2 : Int32))]))
  refine own_go (fun _ => XS.iconst X.here hx rfl (hb hby d1_9)) ?_
  show own_Go p e below _ (T.setTop (mkF m 10 #[.val (.int (2 : Int32))] [(.int (1 : Int32)), (.int (2 : Int32))]))
  refine own_go (fun _ => XS.icmpYes X.here hx rfl (pc0 := 10) (pc' := 17) rfl (hb hby d1_10) rfl (XT.ii_ne_t (by decide)) (by decide) (by decide)) ?_
  show own_Go p e below _ (T.setTop (mkF m 17 #[.val (.int (2 : Int32))] []))
  refine own_go (fun _ => XS.iloadN X.here hx rfl (hb hby d1_17) rfl) ?_
  show own_Go p e below _ (T.setTop (mkF m 18 #[.val (.int (2 : Int32))] [(.int (2 : Int32))]))
  refine own_go (fun _ => XS.iconst X.here hx rfl (hb hby d1_18)) ?_
  show own_Go p e below _ (T.setTop (mkF m 19 #[.val (.int (2 : Int32))] [(.int (2 : Int32)), (.int (2 : Int32))]))
  refine own_go (fun _ => XS.icmpNo X.here hx rfl (hb hby d1_19) rfl (XT.ii_ne_f (by decide))) ?_
  show own_Go p e below _ (T.setTop (mkF m 22 #[.val (.int (2 : Int32))] []))
  obtain ⟨T1, X1, e1, st1⟩ := getS2 X hx hZ hown (host := "") (Or.inl (hw _ (List.mem_of_getElem? (i := 24) rfl))) Via.refl eT st (g := (mkF m 22 #[.val (.int (2 : Int32))] [])) rfl (hb hby d1_22)
  refine own_go st1 ?_
  show own_Go p e below _ (T1.setTop (mkF m 25 #[.val (.int (2 : Int32))] [(.ref a)]))
  exact own_aret X1 hx hlk hret rfl rfl (hb hby d1_25) (Nat.zero_le _) (Nat.zero_le _) ⟨rfl, e1, rfl⟩
set_option maxRecDepth 65536 in
set_option maxHeartbeats 40000000 in
theorem own_pick3_con (l : Launch) (Z : State) (a0 : Array Value) (hw : ∀ d ∈ tables_1, d.before a0 Z = true) (a : Addr) (h0 : Heap) (st : Sta Z h0 "com/example/jadeite/jadeite/formats/BinaryFormat" "IPV6_ADDR" "Lcom/example/jadeite/jadeite/formats/BinaryFormat;" (.ref a)) (ws : List Jvm.Cond) :
    own_Con l Z (⟨"com/example/jadeite/jadeite/formats/BinaryFormatHoldsPinLaw", "pick", "(I)Lcom/example/jadeite/jadeite/formats/BinaryFormat;"⟩ : MethodName) method_2_code 1 (some (.object "com/example/jadeite/jadeite/formats/BinaryFormat")) ({ frames := 0, cells := 0, slots := 0, locals := 0 } : Room) #[(.int (3 : Int32))] h0 (own_PQ h0 (.ref a)) ws := by
  refine own_con (F := fun m => (mkF m 0 #[.val (.int (3 : Int32))] [])) (own_pn (by first | (simp [plainName, overriddenIn]; done) | decide +kernel)) (fun m => by first | (simp [entryFrame, mkF, argsToLocals, Value.category]; done) | rfl) ?_
  intro p e s m below meth c T X hx hby hml hZ hown hnm hret hlk eT
  show own_Go p e below (own_Out s (own_PQ h0 (.ref a)) ({ frames := 0, cells := 0, slots := 0, locals := 0 } : Room).cells ({ frames := 0, cells := 0, slots := 0, locals := 0 } : Room).slots) (T.setTop (mkF m 0 #[.val (.int (3 : Int32))] []))
  refine own_go (fun _ => XS.iloadN X.here hx rfl (hb hby d1_0) rfl) ?_
  show own_Go p e below _ (T.setTop (mkF m 1 #[.val (.int (3 : Int32))] [(.int (3 : Int32))]))
  refine own_go (fun _ => XS.ifYes X.here hx rfl (pc0 := 1) (pc' := 8) rfl (hb hby d1_1) rfl (XT.i0_ne_t (by decide)) (by decide) (by decide)) ?_
  show own_Go p e below _ (T.setTop (mkF m 8 #[.val (.int (3 : Int32))] []))
  refine own_go (fun _ => XS.iloadN X.here hx rfl (hb hby d1_8) rfl) ?_
  show own_Go p e below _ (T.setTop (mkF m 9 #[.val (.int (3 : Int32))] [(.int (3 : Int32))]))
  refine own_go (fun _ => XS.iconst X.here hx rfl (hb hby d1_9)) ?_
  show own_Go p e below _ (T.setTop (mkF m 10 #[.val (.int (3 : Int32))] [(.int (1 : Int32)), (.int (3 : Int32))]))
  refine own_go (fun _ => XS.icmpYes X.here hx rfl (pc0 := 10) (pc' := 17) rfl (hb hby d1_10) rfl (XT.ii_ne_t (by decide)) (by decide) (by decide)) ?_
  show own_Go p e below _ (T.setTop (mkF m 17 #[.val (.int (3 : Int32))] []))
  refine own_go (fun _ => XS.iloadN X.here hx rfl (hb hby d1_17) rfl) ?_
  show own_Go p e below _ (T.setTop (mkF m 18 #[.val (.int (3 : Int32))] [(.int (3 : Int32))]))
  refine own_go (fun _ => XS.iconst X.here hx rfl (hb hby d1_18)) ?_
  show own_Go p e below _ (T.setTop (mkF m 19 #[.val (.int (3 : Int32))] [(.int (2 : Int32)), (.int (3 : Int32))]))
  refine own_go (fun _ => XS.icmpYes X.here hx rfl (pc0 := 19) (pc' := 26) rfl (hb hby d1_19) rfl (XT.ii_ne_t (by decide)) (by decide) (by decide)) ?_
  show own_Go p e below _ (T.setTop (mkF m 26 #[.val (.int (3 : Int32))] []))
  refine own_go (fun _ => XS.iloadN X.here hx rfl (hb hby d1_26) rfl) ?_
  show own_Go p e below _ (T.setTop (mkF m 27 #[.val (.int (3 : Int32))] [(.int (3 : Int32))]))
  refine own_go (fun _ => XS.iconst X.here hx rfl (hb hby d1_27)) ?_
  show own_Go p e below _ (T.setTop (mkF m 28 #[.val (.int (3 : Int32))] [(.int (3 : Int32)), (.int (3 : Int32))]))
  refine own_go (fun _ => XS.icmpNo X.here hx rfl (hb hby d1_28) rfl (XT.ii_ne_f (by decide))) ?_
  show own_Go p e below _ (T.setTop (mkF m 31 #[.val (.int (3 : Int32))] []))
  obtain ⟨T1, X1, e1, st1⟩ := getS2 X hx hZ hown (host := "") (Or.inl (hw _ (List.mem_of_getElem? (i := 20) rfl))) Via.refl eT st (g := (mkF m 31 #[.val (.int (3 : Int32))] [])) rfl (hb hby d1_31)
  refine own_go st1 ?_
  show own_Go p e below _ (T1.setTop (mkF m 34 #[.val (.int (3 : Int32))] [(.ref a)]))
  exact own_aret X1 hx hlk hret rfl rfl (hb hby d1_34) (Nat.zero_le _) (Nat.zero_le _) ⟨rfl, e1, rfl⟩
set_option maxRecDepth 65536 in
set_option maxHeartbeats 40000000 in
theorem own_pick4_con (l : Launch) (Z : State) (a0 : Array Value) (hw : ∀ d ∈ tables_1, d.before a0 Z = true) (a : Addr) (h0 : Heap) (st : Sta Z h0 "com/example/jadeite/jadeite/formats/BinaryFormat" "EUI" "Lcom/example/jadeite/jadeite/formats/BinaryFormat;" (.ref a)) (ws : List Jvm.Cond) :
    own_Con l Z (⟨"com/example/jadeite/jadeite/formats/BinaryFormatHoldsPinLaw", "pick", "(I)Lcom/example/jadeite/jadeite/formats/BinaryFormat;"⟩ : MethodName) method_2_code 1 (some (.object "com/example/jadeite/jadeite/formats/BinaryFormat")) ({ frames := 0, cells := 0, slots := 0, locals := 0 } : Room) #[(.int (4 : Int32))] h0 (own_PQ h0 (.ref a)) ws := by
  refine own_con (F := fun m => (mkF m 0 #[.val (.int (4 : Int32))] [])) (own_pn (by first | (simp [plainName, overriddenIn]; done) | decide +kernel)) (fun m => by first | (simp [entryFrame, mkF, argsToLocals, Value.category]; done) | rfl) ?_
  intro p e s m below meth c T X hx hby hml hZ hown hnm hret hlk eT
  show own_Go p e below (own_Out s (own_PQ h0 (.ref a)) ({ frames := 0, cells := 0, slots := 0, locals := 0 } : Room).cells ({ frames := 0, cells := 0, slots := 0, locals := 0 } : Room).slots) (T.setTop (mkF m 0 #[.val (.int (4 : Int32))] []))
  refine own_go (fun _ => XS.iloadN X.here hx rfl (hb hby d1_0) rfl) ?_
  show own_Go p e below _ (T.setTop (mkF m 1 #[.val (.int (4 : Int32))] [(.int (4 : Int32))]))
  refine own_go (fun _ => XS.ifYes X.here hx rfl (pc0 := 1) (pc' := 8) rfl (hb hby d1_1) rfl (XT.i0_ne_t (by decide)) (by decide) (by decide)) ?_
  show own_Go p e below _ (T.setTop (mkF m 8 #[.val (.int (4 : Int32))] []))
  refine own_go (fun _ => XS.iloadN X.here hx rfl (hb hby d1_8) rfl) ?_
  show own_Go p e below _ (T.setTop (mkF m 9 #[.val (.int (4 : Int32))] [(.int (4 : Int32))]))
  refine own_go (fun _ => XS.iconst X.here hx rfl (hb hby d1_9)) ?_
  show own_Go p e below _ (T.setTop (mkF m 10 #[.val (.int (4 : Int32))] [(.int (1 : Int32)), (.int (4 : Int32))]))
  refine own_go (fun _ => XS.icmpYes X.here hx rfl (pc0 := 10) (pc' := 17) rfl (hb hby d1_10) rfl (XT.ii_ne_t (by decide)) (by decide) (by decide)) ?_
  show own_Go p e below _ (T.setTop (mkF m 17 #[.val (.int (4 : Int32))] []))
  refine own_go (fun _ => XS.iloadN X.here hx rfl (hb hby d1_17) rfl) ?_
  show own_Go p e below _ (T.setTop (mkF m 18 #[.val (.int (4 : Int32))] [(.int (4 : Int32))]))
  refine own_go (fun _ => XS.iconst X.here hx rfl (hb hby d1_18)) ?_
  show own_Go p e below _ (T.setTop (mkF m 19 #[.val (.int (4 : Int32))] [(.int (2 : Int32)), (.int (4 : Int32))]))
  refine own_go (fun _ => XS.icmpYes X.here hx rfl (pc0 := 19) (pc' := 26) rfl (hb hby d1_19) rfl (XT.ii_ne_t (by decide)) (by decide) (by decide)) ?_
  show own_Go p e below _ (T.setTop (mkF m 26 #[.val (.int (4 : Int32))] []))
  refine own_go (fun _ => XS.iloadN X.here hx rfl (hb hby d1_26) rfl) ?_
  show own_Go p e below _ (T.setTop (mkF m 27 #[.val (.int (4 : Int32))] [(.int (4 : Int32))]))
  refine own_go (fun _ => XS.iconst X.here hx rfl (hb hby d1_27)) ?_
  show own_Go p e below _ (T.setTop (mkF m 28 #[.val (.int (4 : Int32))] [(.int (3 : Int32)), (.int (4 : Int32))]))
  refine own_go (fun _ => XS.icmpYes X.here hx rfl (pc0 := 28) (pc' := 35) rfl (hb hby d1_28) rfl (XT.ii_ne_t (by decide)) (by decide) (by decide)) ?_
  show own_Go p e below _ (T.setTop (mkF m 35 #[.val (.int (4 : Int32))] []))
  obtain ⟨T1, X1, e1, st1⟩ := getS2 X hx hZ hown (host := "") (Or.inl (hw _ (List.mem_of_getElem? (i := 18) rfl))) Via.refl eT st (g := (mkF m 35 #[.val (.int (4 : Int32))] [])) rfl (hb hby d1_35)
  refine own_go st1 ?_
  show own_Go p e below _ (T1.setTop (mkF m 38 #[.val (.int (4 : Int32))] [(.ref a)]))
  exact own_aret X1 hx hlk hret rfl rfl (hb hby d1_38) (Nat.zero_le _) (Nat.zero_le _) ⟨rfl, e1, rfl⟩
theorem own_eqv {s : State} {args : Array Value} {a b : Term} {v : Value} {x : Int32} (ha : a.eval args s none [] s = some v) (hb : b.eval args s none [] s = some (.int x)) (h : (Jvm.Cond.eq a b).value args s none s [] = some true) : v = .int x := by
  cases v <;> simp [Cond.value, ha, hb] at h
  rw [h]
def own_Fmt (Z : State) (h : Heap) (nm : String) (vs : List Value) : Prop := ∃ a b, Sta Z h "com/example/jadeite/jadeite/formats/BinaryFormat" nm "Lcom/example/jadeite/jadeite/formats/BinaryFormat;" (.ref a) ∧ Exa Z h a "com/example/jadeite/jadeite/formats/BinaryFormat" ∧ Fld Z h a "com/example/jadeite/jadeite/formats/BinaryFormat" "lengths" "[I" (.ref b) ∧ own_AV Z h b .int vs
theorem own_fmt {s : State} {args : Array Value} {nm : String} {xs : List Int32} (w1 : (Jvm.Cond.initialized "com/example/jadeite/jadeite/formats/BinaryFormat").before args s = true) (w2 : (Jvm.Cond.laysStatic "com/example/jadeite/jadeite/formats/BinaryFormat" nm "Lcom/example/jadeite/jadeite/formats/BinaryFormat;").before args s = true)
    (h1 : (Jvm.Cond.exactly (Jvm.Term.static "com/example/jadeite/jadeite/formats/BinaryFormat" nm "Lcom/example/jadeite/jadeite/formats/BinaryFormat;") "com/example/jadeite/jadeite/formats/BinaryFormat").value args s none s [] = some true)
    (h2 : (Jvm.Cond.arrayOf (Jvm.Term.field (Jvm.Term.static "com/example/jadeite/jadeite/formats/BinaryFormat" nm "Lcom/example/jadeite/jadeite/formats/BinaryFormat;") "com/example/jadeite/jadeite/formats/BinaryFormat" "lengths" "[I") Jvm.ClassFile.FieldType.int).value args s none s [] = some true)
    {n : Int32} (hn : n.toInt = xs.length)
    (h3 : (Jvm.Cond.eq (Jvm.Term.length (Jvm.Term.field (Jvm.Term.static "com/example/jadeite/jadeite/formats/BinaryFormat" nm "Lcom/example/jadeite/jadeite/formats/BinaryFormat;") "com/example/jadeite/jadeite/formats/BinaryFormat" "lengths" "[I")) (Jvm.Term.int n)).value args s none s [] = some true)
    (h4 : ∀ i (hi : i < xs.length), ∃ j : Int32, j.toInt = i ∧ (Jvm.Cond.eq (Jvm.Term.elem (Jvm.Term.field (Jvm.Term.static "com/example/jadeite/jadeite/formats/BinaryFormat" nm "Lcom/example/jadeite/jadeite/formats/BinaryFormat;") "com/example/jadeite/jadeite/formats/BinaryFormat" "lengths" "[I") (Jvm.Term.int j)) (Jvm.Term.int xs[i])).value args s none s [] = some true) :
    own_Fmt s s.heap nm (xs.map Value.int) := by
  obtain ⟨a, ea⟩ := exa_v h1
  obtain ⟨b, eb⟩ := arr_v h2
  have S := Sta.start ea (Or.inr ⟨w1, w2⟩)
  have E := Exa.start ea h1
  have F : Fld s s.heap a "com/example/jadeite/jadeite/formats/BinaryFormat" "lengths" "[I" (.ref b) := Fld.start (by rw [← fld_at (C := "com/example/jadeite/jadeite/formats/BinaryFormat") (n := "lengths") (dd := "[I") ea]; exact eb)
  obtain ⟨cl, A⟩ := Arr.start eb h2
  have at0 := A.fin (Vm.Alike.refl _)
  have lenq : cl.slots.size = xs.length := by
    cases hl : (Jvm.Term.length (Jvm.Term.field (Jvm.Term.static "com/example/jadeite/jadeite/formats/BinaryFormat" nm "Lcom/example/jadeite/jadeite/formats/BinaryFormat;") "com/example/jadeite/jadeite/formats/BinaryFormat" "lengths" "[I")).eval args s none [] s with
    | none => simp [Cond.value, hl] at h3
    | some v =>
      obtain ⟨d, arr, q1, q2, q3, q4⟩ := Jvm.Free.SB.Term.length_small hl
      cases eb.symm.trans q1
      cases at0.symm.trans q2
      subst q3
      have e1 : cl.slots.size.toInt32 = n := Value.int.inj (own_eqv hl (Term.int_eval _) h3)
      have e2 := len_toInt q4
      rw [e1, hn] at e2
      exact (Int.ofNat.inj e2).symm
  refine ⟨a, b, S, E, F, cl, A, ?_, ?_, fun v hv => ?_⟩
  · apply List.ext_getElem?
    intro i
    by_cases hi : i < xs.length
    · obtain ⟨j, hj, q⟩ := h4 i hi
      cases he : (Jvm.Term.elem (Jvm.Term.field (Jvm.Term.static "com/example/jadeite/jadeite/formats/BinaryFormat" nm "Lcom/example/jadeite/jadeite/formats/BinaryFormat;") "com/example/jadeite/jadeite/formats/BinaryFormat" "lengths" "[I") (Jvm.Term.int j)).eval args s none [] s with
      | none => simp [Cond.value, he] at q
      | some v =>
        obtain ⟨-, e2⟩ := elem_in he eb (Term.int_eval j) A.1
        rw [(own_idx hj).2] at e2
        rw [Array.getElem?_toList, e2, List.getElem?_map, List.getElem?_eq_getElem hi]
        rw [own_eqv he (Term.int_eval _) q]; rfl
    · rw [List.getElem?_eq_none (by rw [Array.length_toList]; omega), List.getElem?_eq_none (by rw [List.length_map]; omega)]
  · rw [List.length_map]; have := n.toInt_lt; omega
  · obtain ⟨z, -, rfl⟩ := List.mem_map.mp hv; rfl
theorem own_five (x : Int32) : (x &&& (2147483647 : Int32)) - ((x &&& (2147483647 : Int32)) / (5 : Int32)) * (5 : Int32) = 0 ∨ (x &&& (2147483647 : Int32)) - ((x &&& (2147483647 : Int32)) / (5 : Int32)) * (5 : Int32) = 1 ∨ (x &&& (2147483647 : Int32)) - ((x &&& (2147483647 : Int32)) / (5 : Int32)) * (5 : Int32) = 2 ∨ (x &&& (2147483647 : Int32)) - ((x &&& (2147483647 : Int32)) / (5 : Int32)) * (5 : Int32) = 3 ∨ (x &&& (2147483647 : Int32)) - ((x &&& (2147483647 : Int32)) / (5 : Int32)) * (5 : Int32) = 4 := by
  have hz := (c_and x (2147483647 : Int32) (by decide)).1
  generalize x &&& (2147483647 : Int32) = z at *
  have d1 := (c_idiv z 5 5 (by decide) (by decide)).1 hz
  have d2 := c_imul (z / (5 : Int32)) 5
  have d3 := c_isub z ((z / (5 : Int32)) * (5 : Int32))
  have b1 := z.toInt_lt
  have b2 := ((z / (5 : Int32)) * (5 : Int32)).toInt_lt
  have b3 := ((z / (5 : Int32)) * (5 : Int32)).le_toInt
  have b4 := (z - (z / (5 : Int32)) * (5 : Int32)).toInt_lt
  have b5 := (z - (z / (5 : Int32)) * (5 : Int32)).le_toInt
  have l5 : (5 : Int32).toInt = 5 := by decide
  rw [l5, d1] at d2
  simp only [← Int32.toInt_inj]
  simp only [Int32.reduceToInt]
  omega
theorem own_e0 (n : Int32) : (1 : Int32) = own_expected 0 n := rfl
theorem own_e1 (n : Int32) : (1 : Int32) = own_expected 1 n := rfl
theorem own_e2 (n : Int32) : (if (4 : Int32) = n then (1 : Int32) else (0 : Int32)) = own_expected 2 n := by
  by_cases q : n = 4
  · subst q; rfl
  · rw [if_neg (fun z => q z.symm)]; unfold own_expected; simp [q]
theorem own_e3 (n : Int32) : (if (16 : Int32) = n then (1 : Int32) else (0 : Int32)) = own_expected 3 n := by
  by_cases q : n = 16
  · subst q; rfl
  · rw [if_neg (fun z => q z.symm)]; unfold own_expected; simp [q]
theorem own_e4 (n : Int32) : (if (6 : Int32) = n then (1 : Int32) else (if (8 : Int32) = n then (1 : Int32) else (0 : Int32))) = own_expected 4 n := by
  by_cases q : n = 6
  · subst q; rfl
  · by_cases q2 : n = 8
    · subst q2; rfl
    · rw [if_neg (fun z => q z.symm), if_neg (fun z => q2 z.symm)]; unfold own_expected; simp [q, q2]
def own_Q1 (n0 : Nat) (v : Option Value) (h : Heap) (L : List Loc) : Prop := v = some (.int 1) ∧ Fr n0 L
set_option maxRecDepth 65536 in
set_option maxHeartbeats 40000000 in
theorem own_main_con (l : Launch) (Z : State) (a0 : Array Value) (hw : ∀ d ∈ tables_1, d.before a0 Z = true) (x0 : Int32) (x1 : Int32) (h0 : Heap) (F0 : own_Fmt Z h0 "BASE64URL" (([] : List Int32).map Value.int)) (F1 : own_Fmt Z h0 "HEX" (([] : List Int32).map Value.int)) (F2 : own_Fmt Z h0 "IPV4_ADDR" (([4] : List Int32).map Value.int)) (F3 : own_Fmt Z h0 "IPV6_ADDR" (([16] : List Int32).map Value.int)) (F4 : own_Fmt Z h0 "EUI" (([6, 8] : List Int32).map Value.int)) (ws : List Jvm.Cond) :
    own_Con l Z x code maxLocals ret room_1 #[(.int x0), (.int x1)] h0 (own_Q1 h0.size) ws := by
  refine own_con (F := fun m => (mkF m 0 #[.val (.int x0), .val (.int x1), .unset, .unset, .unset, .unset, .unset] [])) (own_pn (by first | (simp [plainName, overriddenIn]; done) | decide +kernel)) (fun m => by first | (simp [entryFrame, mkF, argsToLocals, Value.category, maxLocals]; done) | rfl) ?_
  intro p e s m below meth c T X hx hby hml hZ hown hnm hret hlk eT
  show own_Go p e below (own_Out s (own_Q1 h0.size) room_1.cells room_1.slots) (T.setTop (mkF m 0 #[.val (.int x0), .val (.int x1), .unset, .unset, .unset, .unset, .unset] []))
  have N0 := Fr.nil h0.size
  refine own_go (fun _ => XS.iloadN X.here hx rfl (hb hby at_0) rfl) ?_
  show own_Go p e below _ (T.setTop (mkF m 1 #[.val (.int x0), .val (.int x1), .unset, .unset, .unset, .unset, .unset] [(.int x0)]))
  refine own_go (X.ldcInt hx hown (mvT hZ (hw _ (List.mem_of_getElem? (i := 0) rfl))) (g := (mkF m 1 #[.val (.int x0), .val (.int x1), .unset, .unset, .unset, .unset, .unset] [(.int x0)])) rfl (hb hby at_1)) ?_
  show own_Go p e below _ (T.setTop (mkF m 3 #[.val (.int x0), .val (.int x1), .unset, .unset, .unset, .unset, .unset] [(.int (2147483647 : Int32)), (.int x0)]))
  refine own_go (fun _ => XS.iand X.here hx rfl (hb hby at_3) rfl) ?_
  show own_Go p e below _ (T.setTop (mkF m 4 #[.val (.int x0), .val (.int x1), .unset, .unset, .unset, .unset, .unset] [(.int (x0 &&& (2147483647 : Int32)))]))
  refine own_go (fun _ => XS.iconst X.here hx rfl (hb hby at_4)) ?_
  show own_Go p e below _ (T.setTop (mkF m 5 #[.val (.int x0), .val (.int x1), .unset, .unset, .unset, .unset, .unset] [(.int (5 : Int32)), (.int (x0 &&& (2147483647 : Int32)))]))
  refine own_go (fun _ => XS.irem X.here hx rfl (hb hby at_5) rfl (by decide)) ?_
  show own_Go p e below _ (T.setTop (mkF m 6 #[.val (.int x0), .val (.int x1), .unset, .unset, .unset, .unset, .unset] [(.int ((x0 &&& (2147483647 : Int32)) - ((x0 &&& (2147483647 : Int32)) / (5 : Int32)) * (5 : Int32)))]))
  rcases own_five x0 with hn | hn | hn | hn | hn
  · skip
    rw [hn]
    show own_Go p e below _ (T.setTop (mkF m 6 #[.val (.int x0), .val (.int x1), .unset, .unset, .unset, .unset, .unset] [(.int (0 : Int32))]))
    obtain ⟨a, b, st, ex, fl, av⟩ := F0
    refine own_go (fun _ => XS.istoreN X.here hx rfl (hb hby at_6) rfl (l' := #[.val (.int x0), .val (.int x1), .val (.int (0 : Int32)), .unset, .unset, .unset, .unset]) rfl) ?_
    show own_Go p e below _ (T.setTop (mkF m 7 #[.val (.int x0), .val (.int x1), .val (.int (0 : Int32)), .unset, .unset, .unset, .unset] []))
    refine own_go (fun _ => XS.iloadN X.here hx rfl (hb hby at_7) rfl) ?_
    show own_Go p e below _ (T.setTop (mkF m 8 #[.val (.int x0), .val (.int x1), .val (.int (0 : Int32)), .unset, .unset, .unset, .unset] [(.int (0 : Int32))]))
    obtain ⟨T1, X1, e1, st1⟩ := own_callSP X hx hZ hown (argsL := [(.int (0 : Int32))]) (rest := []) (own_pick0_con l Z a0 hw a h0 st []) eT (hw _ (List.mem_of_getElem? (i := 1) rfl)) (hw _ (List.mem_of_getElem? (i := 2) rfl)) (hw _ (List.mem_of_getElem? (i := 3) rfl)) (hw _ (List.mem_of_getElem? (i := 4) rfl)) (by decide) (by decide +kernel : parseMethodDescriptor "(I)Lcom/example/jadeite/jadeite/formats/BinaryFormat;" = some ⟨[.int], (some (.object "com/example/jadeite/jadeite/formats/BinaryFormat"))⟩) rfl (g := (mkF m 8 #[.val (.int x0), .val (.int x1), .val (.int (0 : Int32)), .unset, .unset, .unset, .unset] [(.int (0 : Int32))])) rfl (by rw [hml]; rfl) rfl 0 (by show 2 * 0 + _ ≤ _; exact Nat.le_of_eq rfl) (hb hby at_8) (by decide) (by decide) rfl rfl (by decide) (by decide)
    refine own_go st1 ?_
    show own_Go p e below _ (T1.setTop (mkF m 11 #[.val (.int x0), .val (.int x1), .val (.int (0 : Int32)), .unset, .unset, .unset, .unset] [(.ref a)]))
    refine own_go (fun _ => XS.astoreN X1.here hx rfl (hb hby at_11) rfl rfl (l' := #[.val (.int x0), .val (.int x1), .val (.int (0 : Int32)), .val (.ref a), .unset, .unset, .unset]) rfl) ?_
    show own_Go p e below _ (T1.setTop (mkF m 12 #[.val (.int x0), .val (.int x1), .val (.int (0 : Int32)), .val (.ref a), .unset, .unset, .unset] []))
    refine own_go (fun _ => XS.iloadN X1.here hx rfl (hb hby at_12) rfl) ?_
    show own_Go p e below _ (T1.setTop (mkF m 13 #[.val (.int x0), .val (.int x1), .val (.int (0 : Int32)), .val (.ref a), .unset, .unset, .unset] [(.int x1)]))
    refine own_go (fun _ => XS.bipush X1.here hx rfl (hb hby at_13)) ?_
    show own_Go p e below _ (T1.setTop (mkF m 15 #[.val (.int x0), .val (.int x1), .val (.int (0 : Int32)), .val (.ref a), .unset, .unset, .unset] [(.int (31 : Int32)), (.int x1)]))
    refine own_go (fun _ => XS.iand X1.here hx rfl (hb hby at_15) rfl) ?_
    show own_Go p e below _ (T1.setTop (mkF m 16 #[.val (.int x0), .val (.int x1), .val (.int (0 : Int32)), .val (.ref a), .unset, .unset, .unset] [(.int (x1 &&& (31 : Int32)))]))
    refine own_go (fun _ => XS.istore X1.here hx rfl (hb hby at_16) rfl (l' := #[.val (.int x0), .val (.int x1), .val (.int (0 : Int32)), .val (.ref a), .val (.int (x1 &&& (31 : Int32))), .unset, .unset]) rfl) ?_
    show own_Go p e below _ (T1.setTop (mkF m 18 #[.val (.int x0), .val (.int x1), .val (.int (0 : Int32)), .val (.ref a), .val (.int (x1 &&& (31 : Int32))), .unset, .unset] []))
    refine own_go (fun _ => XS.aloadN X1.here hx rfl (hb hby at_18) rfl rfl) ?_
    show own_Go p e below _ (T1.setTop (mkF m 19 #[.val (.int x0), .val (.int x1), .val (.int (0 : Int32)), .val (.ref a), .val (.int (x1 &&& (31 : Int32))), .unset, .unset] [(.ref a)]))
    refine own_go (fun _ => XS.iloadN X1.here hx rfl (hb hby at_19) rfl) ?_
    show own_Go p e below _ (T1.setTop (mkF m 20 #[.val (.int x0), .val (.int x1), .val (.int (0 : Int32)), .val (.ref a), .val (.int (x1 &&& (31 : Int32))), .unset, .unset] [(.int x1), (.ref a)]))
    obtain ⟨_, T2, L2, X2, ⟨rfl, eh2, rfl⟩, st2⟩ := own_callV X1 hx hZ hown (argsL := [(.int x1)]) (rest := []) (own_holds0_con l Z a0 hw a b x1  h0 fl av []) e1 ex (hw _ (List.mem_of_getElem? (i := 8) rfl)) (hw _ (List.mem_of_getElem? (i := 9) rfl)) (hw _ (List.mem_of_getElem? (i := 11) rfl)) (hw _ (List.mem_of_getElem? (i := 10) rfl)) (hw _ (List.mem_of_getElem? (i := 6) rfl)) (hw _ (List.mem_of_getElem? (i := 12) rfl)) (notFace_of_selects (args := #[]) (mvT hZ (hw _ (List.mem_of_getElem? (i := 11) rfl)))) (by decide) (by decide +kernel : parseMethodDescriptor "(I)Z" = some ⟨[.int], some .boolean⟩) rfl (g := (mkF m 20 #[.val (.int x0), .val (.int x1), .val (.int (0 : Int32)), .val (.ref a), .val (.int (x1 &&& (31 : Int32))), .unset, .unset] [(.int x1), (.ref a)])) rfl (by rw [hml]; rfl) rfl 0 (by show 2 * 0 + _ ≤ _; exact Nat.le_of_eq rfl) (hb hby at_20) (by decide) (by decide) (by decide) (by decide)
    rw [List.append_nil] at X2
    refine own_go st2 ?_
    show own_Go p e below _ (T2.setTop (mkF m 23 #[.val (.int x0), .val (.int x1), .val (.int (0 : Int32)), .val (.ref a), .val (.int (x1 &&& (31 : Int32))), .unset, .unset] [(.int (1 : Int32))]))
    refine own_go (fun _ => XS.iloadN X2.here hx rfl (hb hby at_23) rfl) ?_
    show own_Go p e below _ (T2.setTop (mkF m 24 #[.val (.int x0), .val (.int x1), .val (.int (0 : Int32)), .val (.ref a), .val (.int (x1 &&& (31 : Int32))), .unset, .unset] [(.int (0 : Int32)), (.int (1 : Int32))]))
    refine own_go (fun _ => XS.iloadN X2.here hx rfl (hb hby at_24) rfl) ?_
    show own_Go p e below _ (T2.setTop (mkF m 25 #[.val (.int x0), .val (.int x1), .val (.int (0 : Int32)), .val (.ref a), .val (.int (x1 &&& (31 : Int32))), .unset, .unset] [(.int x1), (.int (0 : Int32)), (.int (1 : Int32))]))
    obtain ⟨T3, X3, e3, st3⟩ := own_callSP X2 hx hZ hown (argsL := [(.int (0 : Int32)), (.int x1)]) (rest := [(.int (1 : Int32))]) (own_expected_con l Z a0 hw (0 : Int32) x1 h0 []) eh2 (hw _ (List.mem_of_getElem? (i := 15) rfl)) (hw _ (List.mem_of_getElem? (i := 16) rfl)) (hw _ (List.mem_of_getElem? (i := 3) rfl)) (hw _ (List.mem_of_getElem? (i := 17) rfl)) (by decide) (by decide +kernel : parseMethodDescriptor "(II)Z" = some ⟨[.int, .int], some .boolean⟩) rfl (g := (mkF m 25 #[.val (.int x0), .val (.int x1), .val (.int (0 : Int32)), .val (.ref a), .val (.int (x1 &&& (31 : Int32))), .unset, .unset] [(.int x1), (.int (0 : Int32)), (.int (1 : Int32))])) rfl (by rw [hml]; rfl) rfl 1 (by show 2 * 0 + _ ≤ _; exact Nat.le_of_eq rfl) (hb hby at_25) (by decide) (by decide) rfl rfl (by decide) (by decide)
    refine own_go st3 ?_
    show own_Go p e below _ (T3.setTop (mkF m 28 #[.val (.int x0), .val (.int x1), .val (.int (0 : Int32)), .val (.ref a), .val (.int (x1 &&& (31 : Int32))), .unset, .unset] [(.int (own_expected (0 : Int32) x1)), (.int (1 : Int32))]))
    refine own_go (fun _ => XS.icmpNo X3.here hx rfl (hb hby at_28) rfl (XT.ii_ne_f (own_e0 x1))) ?_
    show own_Go p e below _ (T3.setTop (mkF m 31 #[.val (.int x0), .val (.int x1), .val (.int (0 : Int32)), .val (.ref a), .val (.int (x1 &&& (31 : Int32))), .unset, .unset] []))
    refine own_go (fun _ => XS.iconst X3.here hx rfl (hb hby at_31)) ?_
    show own_Go p e below _ (T3.setTop (mkF m 32 #[.val (.int x0), .val (.int x1), .val (.int (0 : Int32)), .val (.ref a), .val (.int (x1 &&& (31 : Int32))), .unset, .unset] [(.int (1 : Int32))]))
    refine own_go (fun _ => XS.goto X3.here hx rfl (pc0 := 32) (pc' := 36) rfl (hb hby at_32) (by decide) (by decide)) ?_
    show own_Go p e below _ (T3.setTop (mkF m 36 #[.val (.int x0), .val (.int x1), .val (.int (0 : Int32)), .val (.ref a), .val (.int (x1 &&& (31 : Int32))), .unset, .unset] [(.int (1 : Int32))]))
    refine own_go (fun _ => XS.istore X3.here hx rfl (hb hby at_36) rfl (l' := #[.val (.int x0), .val (.int x1), .val (.int (0 : Int32)), .val (.ref a), .val (.int (x1 &&& (31 : Int32))), .val (.int (1 : Int32)), .unset]) rfl) ?_
    show own_Go p e below _ (T3.setTop (mkF m 38 #[.val (.int x0), .val (.int x1), .val (.int (0 : Int32)), .val (.ref a), .val (.int (x1 &&& (31 : Int32))), .val (.int (1 : Int32)), .unset] []))
    refine own_go (fun _ => XS.aloadN X3.here hx rfl (hb hby at_38) rfl rfl) ?_
    show own_Go p e below _ (T3.setTop (mkF m 39 #[.val (.int x0), .val (.int x1), .val (.int (0 : Int32)), .val (.ref a), .val (.int (x1 &&& (31 : Int32))), .val (.int (1 : Int32)), .unset] [(.ref a)]))
    refine own_go (fun _ => XS.iload X3.here hx rfl (hb hby at_39) rfl) ?_
    show own_Go p e below _ (T3.setTop (mkF m 41 #[.val (.int x0), .val (.int x1), .val (.int (0 : Int32)), .val (.ref a), .val (.int (x1 &&& (31 : Int32))), .val (.int (1 : Int32)), .unset] [(.int (x1 &&& (31 : Int32))), (.ref a)]))
    obtain ⟨_, T4, L4, X4, ⟨rfl, eh4, rfl⟩, st4⟩ := own_callV X3 hx hZ hown (argsL := [(.int (x1 &&& (31 : Int32)))]) (rest := []) (own_holds0_con l Z a0 hw a b (x1 &&& (31 : Int32))  h0 fl av []) e3 ex (hw _ (List.mem_of_getElem? (i := 8) rfl)) (hw _ (List.mem_of_getElem? (i := 9) rfl)) (hw _ (List.mem_of_getElem? (i := 11) rfl)) (hw _ (List.mem_of_getElem? (i := 10) rfl)) (hw _ (List.mem_of_getElem? (i := 6) rfl)) (hw _ (List.mem_of_getElem? (i := 12) rfl)) (notFace_of_selects (args := #[]) (mvT hZ (hw _ (List.mem_of_getElem? (i := 11) rfl)))) (by decide) (by decide +kernel : parseMethodDescriptor "(I)Z" = some ⟨[.int], some .boolean⟩) rfl (g := (mkF m 41 #[.val (.int x0), .val (.int x1), .val (.int (0 : Int32)), .val (.ref a), .val (.int (x1 &&& (31 : Int32))), .val (.int (1 : Int32)), .unset] [(.int (x1 &&& (31 : Int32))), (.ref a)])) rfl (by rw [hml]; rfl) rfl 0 (by show 2 * 0 + _ ≤ _; exact Nat.le_of_eq rfl) (hb hby at_41) (by decide) (by decide) (by decide) (by decide)
    rw [List.append_nil] at X4
    refine own_go st4 ?_
    show own_Go p e below _ (T4.setTop (mkF m 44 #[.val (.int x0), .val (.int x1), .val (.int (0 : Int32)), .val (.ref a), .val (.int (x1 &&& (31 : Int32))), .val (.int (1 : Int32)), .unset] [(.int (1 : Int32))]))
    refine own_go (fun _ => XS.iloadN X4.here hx rfl (hb hby at_44) rfl) ?_
    show own_Go p e below _ (T4.setTop (mkF m 45 #[.val (.int x0), .val (.int x1), .val (.int (0 : Int32)), .val (.ref a), .val (.int (x1 &&& (31 : Int32))), .val (.int (1 : Int32)), .unset] [(.int (0 : Int32)), (.int (1 : Int32))]))
    refine own_go (fun _ => XS.iload X4.here hx rfl (hb hby at_45) rfl) ?_
    show own_Go p e below _ (T4.setTop (mkF m 47 #[.val (.int x0), .val (.int x1), .val (.int (0 : Int32)), .val (.ref a), .val (.int (x1 &&& (31 : Int32))), .val (.int (1 : Int32)), .unset] [(.int (x1 &&& (31 : Int32))), (.int (0 : Int32)), (.int (1 : Int32))]))
    obtain ⟨T5, X5, e5, st5⟩ := own_callSP X4 hx hZ hown (argsL := [(.int (0 : Int32)), (.int (x1 &&& (31 : Int32)))]) (rest := [(.int (1 : Int32))]) (own_expected_con l Z a0 hw (0 : Int32) (x1 &&& (31 : Int32)) h0 []) eh4 (hw _ (List.mem_of_getElem? (i := 15) rfl)) (hw _ (List.mem_of_getElem? (i := 16) rfl)) (hw _ (List.mem_of_getElem? (i := 3) rfl)) (hw _ (List.mem_of_getElem? (i := 17) rfl)) (by decide) (by decide +kernel : parseMethodDescriptor "(II)Z" = some ⟨[.int, .int], some .boolean⟩) rfl (g := (mkF m 47 #[.val (.int x0), .val (.int x1), .val (.int (0 : Int32)), .val (.ref a), .val (.int (x1 &&& (31 : Int32))), .val (.int (1 : Int32)), .unset] [(.int (x1 &&& (31 : Int32))), (.int (0 : Int32)), (.int (1 : Int32))])) rfl (by rw [hml]; rfl) rfl 1 (by show 2 * 0 + _ ≤ _; exact Nat.le_of_eq rfl) (hb hby at_47) (by decide) (by decide) rfl rfl (by decide) (by decide)
    refine own_go st5 ?_
    show own_Go p e below _ (T5.setTop (mkF m 50 #[.val (.int x0), .val (.int x1), .val (.int (0 : Int32)), .val (.ref a), .val (.int (x1 &&& (31 : Int32))), .val (.int (1 : Int32)), .unset] [(.int (own_expected (0 : Int32) (x1 &&& (31 : Int32)))), (.int (1 : Int32))]))
    refine own_go (fun _ => XS.icmpNo X5.here hx rfl (hb hby at_50) rfl (XT.ii_ne_f (own_e0 (x1 &&& (31 : Int32))))) ?_
    show own_Go p e below _ (T5.setTop (mkF m 53 #[.val (.int x0), .val (.int x1), .val (.int (0 : Int32)), .val (.ref a), .val (.int (x1 &&& (31 : Int32))), .val (.int (1 : Int32)), .unset] []))
    refine own_go (fun _ => XS.iconst X5.here hx rfl (hb hby at_53)) ?_
    show own_Go p e below _ (T5.setTop (mkF m 54 #[.val (.int x0), .val (.int x1), .val (.int (0 : Int32)), .val (.ref a), .val (.int (x1 &&& (31 : Int32))), .val (.int (1 : Int32)), .unset] [(.int (1 : Int32))]))
    refine own_go (fun _ => XS.goto X5.here hx rfl (pc0 := 54) (pc' := 58) rfl (hb hby at_54) (by decide) (by decide)) ?_
    show own_Go p e below _ (T5.setTop (mkF m 58 #[.val (.int x0), .val (.int x1), .val (.int (0 : Int32)), .val (.ref a), .val (.int (x1 &&& (31 : Int32))), .val (.int (1 : Int32)), .unset] [(.int (1 : Int32))]))
    refine own_go (fun _ => XS.istore X5.here hx rfl (hb hby at_58) rfl (l' := #[.val (.int x0), .val (.int x1), .val (.int (0 : Int32)), .val (.ref a), .val (.int (x1 &&& (31 : Int32))), .val (.int (1 : Int32)), .val (.int (1 : Int32))]) rfl) ?_
    show own_Go p e below _ (T5.setTop (mkF m 60 #[.val (.int x0), .val (.int x1), .val (.int (0 : Int32)), .val (.ref a), .val (.int (x1 &&& (31 : Int32))), .val (.int (1 : Int32)), .val (.int (1 : Int32))] []))
    refine own_go (fun _ => XS.iload X5.here hx rfl (hb hby at_60) rfl) ?_
    show own_Go p e below _ (T5.setTop (mkF m 62 #[.val (.int x0), .val (.int x1), .val (.int (0 : Int32)), .val (.ref a), .val (.int (x1 &&& (31 : Int32))), .val (.int (1 : Int32)), .val (.int (1 : Int32))] [(.int (1 : Int32))]))
    refine own_go (fun _ => XS.ifNo X5.here hx rfl (hb hby at_62) rfl (XT.i0_eq_f (by decide))) ?_
    show own_Go p e below _ (T5.setTop (mkF m 65 #[.val (.int x0), .val (.int x1), .val (.int (0 : Int32)), .val (.ref a), .val (.int (x1 &&& (31 : Int32))), .val (.int (1 : Int32)), .val (.int (1 : Int32))] []))
    refine own_go (fun _ => XS.iload X5.here hx rfl (hb hby at_65) rfl) ?_
    show own_Go p e below _ (T5.setTop (mkF m 67 #[.val (.int x0), .val (.int x1), .val (.int (0 : Int32)), .val (.ref a), .val (.int (x1 &&& (31 : Int32))), .val (.int (1 : Int32)), .val (.int (1 : Int32))] [(.int (1 : Int32))]))
    refine own_go (fun _ => XS.ifNo X5.here hx rfl (hb hby at_67) rfl (XT.i0_eq_f (by decide))) ?_
    show own_Go p e below _ (T5.setTop (mkF m 70 #[.val (.int x0), .val (.int x1), .val (.int (0 : Int32)), .val (.ref a), .val (.int (x1 &&& (31 : Int32))), .val (.int (1 : Int32)), .val (.int (1 : Int32))] []))
    refine own_go (fun _ => XS.iconst X5.here hx rfl (hb hby at_70)) ?_
    show own_Go p e below _ (T5.setTop (mkF m 71 #[.val (.int x0), .val (.int x1), .val (.int (0 : Int32)), .val (.ref a), .val (.int (x1 &&& (31 : Int32))), .val (.int (1 : Int32)), .val (.int (1 : Int32))] [(.int (1 : Int32))]))
    refine own_go (fun _ => XS.goto X5.here hx rfl (pc0 := 71) (pc' := 75) rfl (hb hby at_71) (by decide) (by decide)) ?_
    show own_Go p e below _ (T5.setTop (mkF m 75 #[.val (.int x0), .val (.int x1), .val (.int (0 : Int32)), .val (.ref a), .val (.int (x1 &&& (31 : Int32))), .val (.int (1 : Int32)), .val (.int (1 : Int32))] [(.int (1 : Int32))]))
    exact own_iret X5 hx hlk hret (Or.inr (Or.inl rfl)) rfl (hb hby at_75) (by decide) (by decide) ⟨rfl, N0⟩
  · skip
    rw [hn]
    show own_Go p e below _ (T.setTop (mkF m 6 #[.val (.int x0), .val (.int x1), .unset, .unset, .unset, .unset, .unset] [(.int (1 : Int32))]))
    obtain ⟨a, b, st, ex, fl, av⟩ := F1
    refine own_go (fun _ => XS.istoreN X.here hx rfl (hb hby at_6) rfl (l' := #[.val (.int x0), .val (.int x1), .val (.int (1 : Int32)), .unset, .unset, .unset, .unset]) rfl) ?_
    show own_Go p e below _ (T.setTop (mkF m 7 #[.val (.int x0), .val (.int x1), .val (.int (1 : Int32)), .unset, .unset, .unset, .unset] []))
    refine own_go (fun _ => XS.iloadN X.here hx rfl (hb hby at_7) rfl) ?_
    show own_Go p e below _ (T.setTop (mkF m 8 #[.val (.int x0), .val (.int x1), .val (.int (1 : Int32)), .unset, .unset, .unset, .unset] [(.int (1 : Int32))]))
    obtain ⟨T6, X6, e6, st6⟩ := own_callSP X hx hZ hown (argsL := [(.int (1 : Int32))]) (rest := []) (own_pick1_con l Z a0 hw a h0 st []) eT (hw _ (List.mem_of_getElem? (i := 1) rfl)) (hw _ (List.mem_of_getElem? (i := 2) rfl)) (hw _ (List.mem_of_getElem? (i := 3) rfl)) (hw _ (List.mem_of_getElem? (i := 4) rfl)) (by decide) (by decide +kernel : parseMethodDescriptor "(I)Lcom/example/jadeite/jadeite/formats/BinaryFormat;" = some ⟨[.int], (some (.object "com/example/jadeite/jadeite/formats/BinaryFormat"))⟩) rfl (g := (mkF m 8 #[.val (.int x0), .val (.int x1), .val (.int (1 : Int32)), .unset, .unset, .unset, .unset] [(.int (1 : Int32))])) rfl (by rw [hml]; rfl) rfl 0 (by show 2 * 0 + _ ≤ _; exact Nat.le_of_eq rfl) (hb hby at_8) (by decide) (by decide) rfl rfl (by decide) (by decide)
    refine own_go st6 ?_
    show own_Go p e below _ (T6.setTop (mkF m 11 #[.val (.int x0), .val (.int x1), .val (.int (1 : Int32)), .unset, .unset, .unset, .unset] [(.ref a)]))
    refine own_go (fun _ => XS.astoreN X6.here hx rfl (hb hby at_11) rfl rfl (l' := #[.val (.int x0), .val (.int x1), .val (.int (1 : Int32)), .val (.ref a), .unset, .unset, .unset]) rfl) ?_
    show own_Go p e below _ (T6.setTop (mkF m 12 #[.val (.int x0), .val (.int x1), .val (.int (1 : Int32)), .val (.ref a), .unset, .unset, .unset] []))
    refine own_go (fun _ => XS.iloadN X6.here hx rfl (hb hby at_12) rfl) ?_
    show own_Go p e below _ (T6.setTop (mkF m 13 #[.val (.int x0), .val (.int x1), .val (.int (1 : Int32)), .val (.ref a), .unset, .unset, .unset] [(.int x1)]))
    refine own_go (fun _ => XS.bipush X6.here hx rfl (hb hby at_13)) ?_
    show own_Go p e below _ (T6.setTop (mkF m 15 #[.val (.int x0), .val (.int x1), .val (.int (1 : Int32)), .val (.ref a), .unset, .unset, .unset] [(.int (31 : Int32)), (.int x1)]))
    refine own_go (fun _ => XS.iand X6.here hx rfl (hb hby at_15) rfl) ?_
    show own_Go p e below _ (T6.setTop (mkF m 16 #[.val (.int x0), .val (.int x1), .val (.int (1 : Int32)), .val (.ref a), .unset, .unset, .unset] [(.int (x1 &&& (31 : Int32)))]))
    refine own_go (fun _ => XS.istore X6.here hx rfl (hb hby at_16) rfl (l' := #[.val (.int x0), .val (.int x1), .val (.int (1 : Int32)), .val (.ref a), .val (.int (x1 &&& (31 : Int32))), .unset, .unset]) rfl) ?_
    show own_Go p e below _ (T6.setTop (mkF m 18 #[.val (.int x0), .val (.int x1), .val (.int (1 : Int32)), .val (.ref a), .val (.int (x1 &&& (31 : Int32))), .unset, .unset] []))
    refine own_go (fun _ => XS.aloadN X6.here hx rfl (hb hby at_18) rfl rfl) ?_
    show own_Go p e below _ (T6.setTop (mkF m 19 #[.val (.int x0), .val (.int x1), .val (.int (1 : Int32)), .val (.ref a), .val (.int (x1 &&& (31 : Int32))), .unset, .unset] [(.ref a)]))
    refine own_go (fun _ => XS.iloadN X6.here hx rfl (hb hby at_19) rfl) ?_
    show own_Go p e below _ (T6.setTop (mkF m 20 #[.val (.int x0), .val (.int x1), .val (.int (1 : Int32)), .val (.ref a), .val (.int (x1 &&& (31 : Int32))), .unset, .unset] [(.int x1), (.ref a)]))
    obtain ⟨_, T7, L7, X7, ⟨rfl, eh7, rfl⟩, st7⟩ := own_callV X6 hx hZ hown (argsL := [(.int x1)]) (rest := []) (own_holds0_con l Z a0 hw a b x1  h0 fl av []) e6 ex (hw _ (List.mem_of_getElem? (i := 8) rfl)) (hw _ (List.mem_of_getElem? (i := 9) rfl)) (hw _ (List.mem_of_getElem? (i := 11) rfl)) (hw _ (List.mem_of_getElem? (i := 10) rfl)) (hw _ (List.mem_of_getElem? (i := 6) rfl)) (hw _ (List.mem_of_getElem? (i := 12) rfl)) (notFace_of_selects (args := #[]) (mvT hZ (hw _ (List.mem_of_getElem? (i := 11) rfl)))) (by decide) (by decide +kernel : parseMethodDescriptor "(I)Z" = some ⟨[.int], some .boolean⟩) rfl (g := (mkF m 20 #[.val (.int x0), .val (.int x1), .val (.int (1 : Int32)), .val (.ref a), .val (.int (x1 &&& (31 : Int32))), .unset, .unset] [(.int x1), (.ref a)])) rfl (by rw [hml]; rfl) rfl 0 (by show 2 * 0 + _ ≤ _; exact Nat.le_of_eq rfl) (hb hby at_20) (by decide) (by decide) (by decide) (by decide)
    rw [List.append_nil] at X7
    refine own_go st7 ?_
    show own_Go p e below _ (T7.setTop (mkF m 23 #[.val (.int x0), .val (.int x1), .val (.int (1 : Int32)), .val (.ref a), .val (.int (x1 &&& (31 : Int32))), .unset, .unset] [(.int (1 : Int32))]))
    refine own_go (fun _ => XS.iloadN X7.here hx rfl (hb hby at_23) rfl) ?_
    show own_Go p e below _ (T7.setTop (mkF m 24 #[.val (.int x0), .val (.int x1), .val (.int (1 : Int32)), .val (.ref a), .val (.int (x1 &&& (31 : Int32))), .unset, .unset] [(.int (1 : Int32)), (.int (1 : Int32))]))
    refine own_go (fun _ => XS.iloadN X7.here hx rfl (hb hby at_24) rfl) ?_
    show own_Go p e below _ (T7.setTop (mkF m 25 #[.val (.int x0), .val (.int x1), .val (.int (1 : Int32)), .val (.ref a), .val (.int (x1 &&& (31 : Int32))), .unset, .unset] [(.int x1), (.int (1 : Int32)), (.int (1 : Int32))]))
    obtain ⟨T8, X8, e8, st8⟩ := own_callSP X7 hx hZ hown (argsL := [(.int (1 : Int32)), (.int x1)]) (rest := [(.int (1 : Int32))]) (own_expected_con l Z a0 hw (1 : Int32) x1 h0 []) eh7 (hw _ (List.mem_of_getElem? (i := 15) rfl)) (hw _ (List.mem_of_getElem? (i := 16) rfl)) (hw _ (List.mem_of_getElem? (i := 3) rfl)) (hw _ (List.mem_of_getElem? (i := 17) rfl)) (by decide) (by decide +kernel : parseMethodDescriptor "(II)Z" = some ⟨[.int, .int], some .boolean⟩) rfl (g := (mkF m 25 #[.val (.int x0), .val (.int x1), .val (.int (1 : Int32)), .val (.ref a), .val (.int (x1 &&& (31 : Int32))), .unset, .unset] [(.int x1), (.int (1 : Int32)), (.int (1 : Int32))])) rfl (by rw [hml]; rfl) rfl 1 (by show 2 * 0 + _ ≤ _; exact Nat.le_of_eq rfl) (hb hby at_25) (by decide) (by decide) rfl rfl (by decide) (by decide)
    refine own_go st8 ?_
    show own_Go p e below _ (T8.setTop (mkF m 28 #[.val (.int x0), .val (.int x1), .val (.int (1 : Int32)), .val (.ref a), .val (.int (x1 &&& (31 : Int32))), .unset, .unset] [(.int (own_expected (1 : Int32) x1)), (.int (1 : Int32))]))
    refine own_go (fun _ => XS.icmpNo X8.here hx rfl (hb hby at_28) rfl (XT.ii_ne_f (own_e1 x1))) ?_
    show own_Go p e below _ (T8.setTop (mkF m 31 #[.val (.int x0), .val (.int x1), .val (.int (1 : Int32)), .val (.ref a), .val (.int (x1 &&& (31 : Int32))), .unset, .unset] []))
    refine own_go (fun _ => XS.iconst X8.here hx rfl (hb hby at_31)) ?_
    show own_Go p e below _ (T8.setTop (mkF m 32 #[.val (.int x0), .val (.int x1), .val (.int (1 : Int32)), .val (.ref a), .val (.int (x1 &&& (31 : Int32))), .unset, .unset] [(.int (1 : Int32))]))
    refine own_go (fun _ => XS.goto X8.here hx rfl (pc0 := 32) (pc' := 36) rfl (hb hby at_32) (by decide) (by decide)) ?_
    show own_Go p e below _ (T8.setTop (mkF m 36 #[.val (.int x0), .val (.int x1), .val (.int (1 : Int32)), .val (.ref a), .val (.int (x1 &&& (31 : Int32))), .unset, .unset] [(.int (1 : Int32))]))
    refine own_go (fun _ => XS.istore X8.here hx rfl (hb hby at_36) rfl (l' := #[.val (.int x0), .val (.int x1), .val (.int (1 : Int32)), .val (.ref a), .val (.int (x1 &&& (31 : Int32))), .val (.int (1 : Int32)), .unset]) rfl) ?_
    show own_Go p e below _ (T8.setTop (mkF m 38 #[.val (.int x0), .val (.int x1), .val (.int (1 : Int32)), .val (.ref a), .val (.int (x1 &&& (31 : Int32))), .val (.int (1 : Int32)), .unset] []))
    refine own_go (fun _ => XS.aloadN X8.here hx rfl (hb hby at_38) rfl rfl) ?_
    show own_Go p e below _ (T8.setTop (mkF m 39 #[.val (.int x0), .val (.int x1), .val (.int (1 : Int32)), .val (.ref a), .val (.int (x1 &&& (31 : Int32))), .val (.int (1 : Int32)), .unset] [(.ref a)]))
    refine own_go (fun _ => XS.iload X8.here hx rfl (hb hby at_39) rfl) ?_
    show own_Go p e below _ (T8.setTop (mkF m 41 #[.val (.int x0), .val (.int x1), .val (.int (1 : Int32)), .val (.ref a), .val (.int (x1 &&& (31 : Int32))), .val (.int (1 : Int32)), .unset] [(.int (x1 &&& (31 : Int32))), (.ref a)]))
    obtain ⟨_, T9, L9, X9, ⟨rfl, eh9, rfl⟩, st9⟩ := own_callV X8 hx hZ hown (argsL := [(.int (x1 &&& (31 : Int32)))]) (rest := []) (own_holds0_con l Z a0 hw a b (x1 &&& (31 : Int32))  h0 fl av []) e8 ex (hw _ (List.mem_of_getElem? (i := 8) rfl)) (hw _ (List.mem_of_getElem? (i := 9) rfl)) (hw _ (List.mem_of_getElem? (i := 11) rfl)) (hw _ (List.mem_of_getElem? (i := 10) rfl)) (hw _ (List.mem_of_getElem? (i := 6) rfl)) (hw _ (List.mem_of_getElem? (i := 12) rfl)) (notFace_of_selects (args := #[]) (mvT hZ (hw _ (List.mem_of_getElem? (i := 11) rfl)))) (by decide) (by decide +kernel : parseMethodDescriptor "(I)Z" = some ⟨[.int], some .boolean⟩) rfl (g := (mkF m 41 #[.val (.int x0), .val (.int x1), .val (.int (1 : Int32)), .val (.ref a), .val (.int (x1 &&& (31 : Int32))), .val (.int (1 : Int32)), .unset] [(.int (x1 &&& (31 : Int32))), (.ref a)])) rfl (by rw [hml]; rfl) rfl 0 (by show 2 * 0 + _ ≤ _; exact Nat.le_of_eq rfl) (hb hby at_41) (by decide) (by decide) (by decide) (by decide)
    rw [List.append_nil] at X9
    refine own_go st9 ?_
    show own_Go p e below _ (T9.setTop (mkF m 44 #[.val (.int x0), .val (.int x1), .val (.int (1 : Int32)), .val (.ref a), .val (.int (x1 &&& (31 : Int32))), .val (.int (1 : Int32)), .unset] [(.int (1 : Int32))]))
    refine own_go (fun _ => XS.iloadN X9.here hx rfl (hb hby at_44) rfl) ?_
    show own_Go p e below _ (T9.setTop (mkF m 45 #[.val (.int x0), .val (.int x1), .val (.int (1 : Int32)), .val (.ref a), .val (.int (x1 &&& (31 : Int32))), .val (.int (1 : Int32)), .unset] [(.int (1 : Int32)), (.int (1 : Int32))]))
    refine own_go (fun _ => XS.iload X9.here hx rfl (hb hby at_45) rfl) ?_
    show own_Go p e below _ (T9.setTop (mkF m 47 #[.val (.int x0), .val (.int x1), .val (.int (1 : Int32)), .val (.ref a), .val (.int (x1 &&& (31 : Int32))), .val (.int (1 : Int32)), .unset] [(.int (x1 &&& (31 : Int32))), (.int (1 : Int32)), (.int (1 : Int32))]))
    obtain ⟨T10, X10, e10, st10⟩ := own_callSP X9 hx hZ hown (argsL := [(.int (1 : Int32)), (.int (x1 &&& (31 : Int32)))]) (rest := [(.int (1 : Int32))]) (own_expected_con l Z a0 hw (1 : Int32) (x1 &&& (31 : Int32)) h0 []) eh9 (hw _ (List.mem_of_getElem? (i := 15) rfl)) (hw _ (List.mem_of_getElem? (i := 16) rfl)) (hw _ (List.mem_of_getElem? (i := 3) rfl)) (hw _ (List.mem_of_getElem? (i := 17) rfl)) (by decide) (by decide +kernel : parseMethodDescriptor "(II)Z" = some ⟨[.int, .int], some .boolean⟩) rfl (g := (mkF m 47 #[.val (.int x0), .val (.int x1), .val (.int (1 : Int32)), .val (.ref a), .val (.int (x1 &&& (31 : Int32))), .val (.int (1 : Int32)), .unset] [(.int (x1 &&& (31 : Int32))), (.int (1 : Int32)), (.int (1 : Int32))])) rfl (by rw [hml]; rfl) rfl 1 (by show 2 * 0 + _ ≤ _; exact Nat.le_of_eq rfl) (hb hby at_47) (by decide) (by decide) rfl rfl (by decide) (by decide)
    refine own_go st10 ?_
    show own_Go p e below _ (T10.setTop (mkF m 50 #[.val (.int x0), .val (.int x1), .val (.int (1 : Int32)), .val (.ref a), .val (.int (x1 &&& (31 : Int32))), .val (.int (1 : Int32)), .unset] [(.int (own_expected (1 : Int32) (x1 &&& (31 : Int32)))), (.int (1 : Int32))]))
    refine own_go (fun _ => XS.icmpNo X10.here hx rfl (hb hby at_50) rfl (XT.ii_ne_f (own_e1 (x1 &&& (31 : Int32))))) ?_
    show own_Go p e below _ (T10.setTop (mkF m 53 #[.val (.int x0), .val (.int x1), .val (.int (1 : Int32)), .val (.ref a), .val (.int (x1 &&& (31 : Int32))), .val (.int (1 : Int32)), .unset] []))
    refine own_go (fun _ => XS.iconst X10.here hx rfl (hb hby at_53)) ?_
    show own_Go p e below _ (T10.setTop (mkF m 54 #[.val (.int x0), .val (.int x1), .val (.int (1 : Int32)), .val (.ref a), .val (.int (x1 &&& (31 : Int32))), .val (.int (1 : Int32)), .unset] [(.int (1 : Int32))]))
    refine own_go (fun _ => XS.goto X10.here hx rfl (pc0 := 54) (pc' := 58) rfl (hb hby at_54) (by decide) (by decide)) ?_
    show own_Go p e below _ (T10.setTop (mkF m 58 #[.val (.int x0), .val (.int x1), .val (.int (1 : Int32)), .val (.ref a), .val (.int (x1 &&& (31 : Int32))), .val (.int (1 : Int32)), .unset] [(.int (1 : Int32))]))
    refine own_go (fun _ => XS.istore X10.here hx rfl (hb hby at_58) rfl (l' := #[.val (.int x0), .val (.int x1), .val (.int (1 : Int32)), .val (.ref a), .val (.int (x1 &&& (31 : Int32))), .val (.int (1 : Int32)), .val (.int (1 : Int32))]) rfl) ?_
    show own_Go p e below _ (T10.setTop (mkF m 60 #[.val (.int x0), .val (.int x1), .val (.int (1 : Int32)), .val (.ref a), .val (.int (x1 &&& (31 : Int32))), .val (.int (1 : Int32)), .val (.int (1 : Int32))] []))
    refine own_go (fun _ => XS.iload X10.here hx rfl (hb hby at_60) rfl) ?_
    show own_Go p e below _ (T10.setTop (mkF m 62 #[.val (.int x0), .val (.int x1), .val (.int (1 : Int32)), .val (.ref a), .val (.int (x1 &&& (31 : Int32))), .val (.int (1 : Int32)), .val (.int (1 : Int32))] [(.int (1 : Int32))]))
    refine own_go (fun _ => XS.ifNo X10.here hx rfl (hb hby at_62) rfl (XT.i0_eq_f (by decide))) ?_
    show own_Go p e below _ (T10.setTop (mkF m 65 #[.val (.int x0), .val (.int x1), .val (.int (1 : Int32)), .val (.ref a), .val (.int (x1 &&& (31 : Int32))), .val (.int (1 : Int32)), .val (.int (1 : Int32))] []))
    refine own_go (fun _ => XS.iload X10.here hx rfl (hb hby at_65) rfl) ?_
    show own_Go p e below _ (T10.setTop (mkF m 67 #[.val (.int x0), .val (.int x1), .val (.int (1 : Int32)), .val (.ref a), .val (.int (x1 &&& (31 : Int32))), .val (.int (1 : Int32)), .val (.int (1 : Int32))] [(.int (1 : Int32))]))
    refine own_go (fun _ => XS.ifNo X10.here hx rfl (hb hby at_67) rfl (XT.i0_eq_f (by decide))) ?_
    show own_Go p e below _ (T10.setTop (mkF m 70 #[.val (.int x0), .val (.int x1), .val (.int (1 : Int32)), .val (.ref a), .val (.int (x1 &&& (31 : Int32))), .val (.int (1 : Int32)), .val (.int (1 : Int32))] []))
    refine own_go (fun _ => XS.iconst X10.here hx rfl (hb hby at_70)) ?_
    show own_Go p e below _ (T10.setTop (mkF m 71 #[.val (.int x0), .val (.int x1), .val (.int (1 : Int32)), .val (.ref a), .val (.int (x1 &&& (31 : Int32))), .val (.int (1 : Int32)), .val (.int (1 : Int32))] [(.int (1 : Int32))]))
    refine own_go (fun _ => XS.goto X10.here hx rfl (pc0 := 71) (pc' := 75) rfl (hb hby at_71) (by decide) (by decide)) ?_
    show own_Go p e below _ (T10.setTop (mkF m 75 #[.val (.int x0), .val (.int x1), .val (.int (1 : Int32)), .val (.ref a), .val (.int (x1 &&& (31 : Int32))), .val (.int (1 : Int32)), .val (.int (1 : Int32))] [(.int (1 : Int32))]))
    exact own_iret X10 hx hlk hret (Or.inr (Or.inl rfl)) rfl (hb hby at_75) (by decide) (by decide) ⟨rfl, N0⟩
  · skip
    rw [hn]
    show own_Go p e below _ (T.setTop (mkF m 6 #[.val (.int x0), .val (.int x1), .unset, .unset, .unset, .unset, .unset] [(.int (2 : Int32))]))
    obtain ⟨a, b, st, ex, fl, av⟩ := F2
    refine own_go (fun _ => XS.istoreN X.here hx rfl (hb hby at_6) rfl (l' := #[.val (.int x0), .val (.int x1), .val (.int (2 : Int32)), .unset, .unset, .unset, .unset]) rfl) ?_
    show own_Go p e below _ (T.setTop (mkF m 7 #[.val (.int x0), .val (.int x1), .val (.int (2 : Int32)), .unset, .unset, .unset, .unset] []))
    refine own_go (fun _ => XS.iloadN X.here hx rfl (hb hby at_7) rfl) ?_
    show own_Go p e below _ (T.setTop (mkF m 8 #[.val (.int x0), .val (.int x1), .val (.int (2 : Int32)), .unset, .unset, .unset, .unset] [(.int (2 : Int32))]))
    obtain ⟨T11, X11, e11, st11⟩ := own_callSP X hx hZ hown (argsL := [(.int (2 : Int32))]) (rest := []) (own_pick2_con l Z a0 hw a h0 st []) eT (hw _ (List.mem_of_getElem? (i := 1) rfl)) (hw _ (List.mem_of_getElem? (i := 2) rfl)) (hw _ (List.mem_of_getElem? (i := 3) rfl)) (hw _ (List.mem_of_getElem? (i := 4) rfl)) (by decide) (by decide +kernel : parseMethodDescriptor "(I)Lcom/example/jadeite/jadeite/formats/BinaryFormat;" = some ⟨[.int], (some (.object "com/example/jadeite/jadeite/formats/BinaryFormat"))⟩) rfl (g := (mkF m 8 #[.val (.int x0), .val (.int x1), .val (.int (2 : Int32)), .unset, .unset, .unset, .unset] [(.int (2 : Int32))])) rfl (by rw [hml]; rfl) rfl 0 (by show 2 * 0 + _ ≤ _; exact Nat.le_of_eq rfl) (hb hby at_8) (by decide) (by decide) rfl rfl (by decide) (by decide)
    refine own_go st11 ?_
    show own_Go p e below _ (T11.setTop (mkF m 11 #[.val (.int x0), .val (.int x1), .val (.int (2 : Int32)), .unset, .unset, .unset, .unset] [(.ref a)]))
    refine own_go (fun _ => XS.astoreN X11.here hx rfl (hb hby at_11) rfl rfl (l' := #[.val (.int x0), .val (.int x1), .val (.int (2 : Int32)), .val (.ref a), .unset, .unset, .unset]) rfl) ?_
    show own_Go p e below _ (T11.setTop (mkF m 12 #[.val (.int x0), .val (.int x1), .val (.int (2 : Int32)), .val (.ref a), .unset, .unset, .unset] []))
    refine own_go (fun _ => XS.iloadN X11.here hx rfl (hb hby at_12) rfl) ?_
    show own_Go p e below _ (T11.setTop (mkF m 13 #[.val (.int x0), .val (.int x1), .val (.int (2 : Int32)), .val (.ref a), .unset, .unset, .unset] [(.int x1)]))
    refine own_go (fun _ => XS.bipush X11.here hx rfl (hb hby at_13)) ?_
    show own_Go p e below _ (T11.setTop (mkF m 15 #[.val (.int x0), .val (.int x1), .val (.int (2 : Int32)), .val (.ref a), .unset, .unset, .unset] [(.int (31 : Int32)), (.int x1)]))
    refine own_go (fun _ => XS.iand X11.here hx rfl (hb hby at_15) rfl) ?_
    show own_Go p e below _ (T11.setTop (mkF m 16 #[.val (.int x0), .val (.int x1), .val (.int (2 : Int32)), .val (.ref a), .unset, .unset, .unset] [(.int (x1 &&& (31 : Int32)))]))
    refine own_go (fun _ => XS.istore X11.here hx rfl (hb hby at_16) rfl (l' := #[.val (.int x0), .val (.int x1), .val (.int (2 : Int32)), .val (.ref a), .val (.int (x1 &&& (31 : Int32))), .unset, .unset]) rfl) ?_
    show own_Go p e below _ (T11.setTop (mkF m 18 #[.val (.int x0), .val (.int x1), .val (.int (2 : Int32)), .val (.ref a), .val (.int (x1 &&& (31 : Int32))), .unset, .unset] []))
    refine own_go (fun _ => XS.aloadN X11.here hx rfl (hb hby at_18) rfl rfl) ?_
    show own_Go p e below _ (T11.setTop (mkF m 19 #[.val (.int x0), .val (.int x1), .val (.int (2 : Int32)), .val (.ref a), .val (.int (x1 &&& (31 : Int32))), .unset, .unset] [(.ref a)]))
    refine own_go (fun _ => XS.iloadN X11.here hx rfl (hb hby at_19) rfl) ?_
    show own_Go p e below _ (T11.setTop (mkF m 20 #[.val (.int x0), .val (.int x1), .val (.int (2 : Int32)), .val (.ref a), .val (.int (x1 &&& (31 : Int32))), .unset, .unset] [(.int x1), (.ref a)]))
    obtain ⟨_, T12, L12, X12, ⟨rfl, eh12, rfl⟩, st12⟩ := own_callV X11 hx hZ hown (argsL := [(.int x1)]) (rest := []) (own_holds1_con l Z a0 hw a b x1 (4 : Int32) h0 fl av []) e11 ex (hw _ (List.mem_of_getElem? (i := 8) rfl)) (hw _ (List.mem_of_getElem? (i := 9) rfl)) (hw _ (List.mem_of_getElem? (i := 11) rfl)) (hw _ (List.mem_of_getElem? (i := 10) rfl)) (hw _ (List.mem_of_getElem? (i := 6) rfl)) (hw _ (List.mem_of_getElem? (i := 12) rfl)) (notFace_of_selects (args := #[]) (mvT hZ (hw _ (List.mem_of_getElem? (i := 11) rfl)))) (by decide) (by decide +kernel : parseMethodDescriptor "(I)Z" = some ⟨[.int], some .boolean⟩) rfl (g := (mkF m 20 #[.val (.int x0), .val (.int x1), .val (.int (2 : Int32)), .val (.ref a), .val (.int (x1 &&& (31 : Int32))), .unset, .unset] [(.int x1), (.ref a)])) rfl (by rw [hml]; rfl) rfl 0 (by show 2 * 0 + _ ≤ _; exact Nat.le_of_eq rfl) (hb hby at_20) (by decide) (by decide) (by decide) (by decide)
    rw [List.append_nil] at X12
    refine own_go st12 ?_
    show own_Go p e below _ (T12.setTop (mkF m 23 #[.val (.int x0), .val (.int x1), .val (.int (2 : Int32)), .val (.ref a), .val (.int (x1 &&& (31 : Int32))), .unset, .unset] [(.int (if (4 : Int32) = x1 then (1 : Int32) else (0 : Int32)))]))
    refine own_go (fun _ => XS.iloadN X12.here hx rfl (hb hby at_23) rfl) ?_
    show own_Go p e below _ (T12.setTop (mkF m 24 #[.val (.int x0), .val (.int x1), .val (.int (2 : Int32)), .val (.ref a), .val (.int (x1 &&& (31 : Int32))), .unset, .unset] [(.int (2 : Int32)), (.int (if (4 : Int32) = x1 then (1 : Int32) else (0 : Int32)))]))
    refine own_go (fun _ => XS.iloadN X12.here hx rfl (hb hby at_24) rfl) ?_
    show own_Go p e below _ (T12.setTop (mkF m 25 #[.val (.int x0), .val (.int x1), .val (.int (2 : Int32)), .val (.ref a), .val (.int (x1 &&& (31 : Int32))), .unset, .unset] [(.int x1), (.int (2 : Int32)), (.int (if (4 : Int32) = x1 then (1 : Int32) else (0 : Int32)))]))
    obtain ⟨T13, X13, e13, st13⟩ := own_callSP X12 hx hZ hown (argsL := [(.int (2 : Int32)), (.int x1)]) (rest := [(.int (if (4 : Int32) = x1 then (1 : Int32) else (0 : Int32)))]) (own_expected_con l Z a0 hw (2 : Int32) x1 h0 []) eh12 (hw _ (List.mem_of_getElem? (i := 15) rfl)) (hw _ (List.mem_of_getElem? (i := 16) rfl)) (hw _ (List.mem_of_getElem? (i := 3) rfl)) (hw _ (List.mem_of_getElem? (i := 17) rfl)) (by decide) (by decide +kernel : parseMethodDescriptor "(II)Z" = some ⟨[.int, .int], some .boolean⟩) rfl (g := (mkF m 25 #[.val (.int x0), .val (.int x1), .val (.int (2 : Int32)), .val (.ref a), .val (.int (x1 &&& (31 : Int32))), .unset, .unset] [(.int x1), (.int (2 : Int32)), (.int (if (4 : Int32) = x1 then (1 : Int32) else (0 : Int32)))])) rfl (by rw [hml]; rfl) rfl 1 (by show 2 * 0 + _ ≤ _; exact Nat.le_of_eq rfl) (hb hby at_25) (by decide) (by decide) rfl rfl (by decide) (by decide)
    refine own_go st13 ?_
    show own_Go p e below _ (T13.setTop (mkF m 28 #[.val (.int x0), .val (.int x1), .val (.int (2 : Int32)), .val (.ref a), .val (.int (x1 &&& (31 : Int32))), .unset, .unset] [(.int (own_expected (2 : Int32) x1)), (.int (if (4 : Int32) = x1 then (1 : Int32) else (0 : Int32)))]))
    refine own_go (fun _ => XS.icmpNo X13.here hx rfl (hb hby at_28) rfl (XT.ii_ne_f (own_e2 x1))) ?_
    show own_Go p e below _ (T13.setTop (mkF m 31 #[.val (.int x0), .val (.int x1), .val (.int (2 : Int32)), .val (.ref a), .val (.int (x1 &&& (31 : Int32))), .unset, .unset] []))
    refine own_go (fun _ => XS.iconst X13.here hx rfl (hb hby at_31)) ?_
    show own_Go p e below _ (T13.setTop (mkF m 32 #[.val (.int x0), .val (.int x1), .val (.int (2 : Int32)), .val (.ref a), .val (.int (x1 &&& (31 : Int32))), .unset, .unset] [(.int (1 : Int32))]))
    refine own_go (fun _ => XS.goto X13.here hx rfl (pc0 := 32) (pc' := 36) rfl (hb hby at_32) (by decide) (by decide)) ?_
    show own_Go p e below _ (T13.setTop (mkF m 36 #[.val (.int x0), .val (.int x1), .val (.int (2 : Int32)), .val (.ref a), .val (.int (x1 &&& (31 : Int32))), .unset, .unset] [(.int (1 : Int32))]))
    refine own_go (fun _ => XS.istore X13.here hx rfl (hb hby at_36) rfl (l' := #[.val (.int x0), .val (.int x1), .val (.int (2 : Int32)), .val (.ref a), .val (.int (x1 &&& (31 : Int32))), .val (.int (1 : Int32)), .unset]) rfl) ?_
    show own_Go p e below _ (T13.setTop (mkF m 38 #[.val (.int x0), .val (.int x1), .val (.int (2 : Int32)), .val (.ref a), .val (.int (x1 &&& (31 : Int32))), .val (.int (1 : Int32)), .unset] []))
    refine own_go (fun _ => XS.aloadN X13.here hx rfl (hb hby at_38) rfl rfl) ?_
    show own_Go p e below _ (T13.setTop (mkF m 39 #[.val (.int x0), .val (.int x1), .val (.int (2 : Int32)), .val (.ref a), .val (.int (x1 &&& (31 : Int32))), .val (.int (1 : Int32)), .unset] [(.ref a)]))
    refine own_go (fun _ => XS.iload X13.here hx rfl (hb hby at_39) rfl) ?_
    show own_Go p e below _ (T13.setTop (mkF m 41 #[.val (.int x0), .val (.int x1), .val (.int (2 : Int32)), .val (.ref a), .val (.int (x1 &&& (31 : Int32))), .val (.int (1 : Int32)), .unset] [(.int (x1 &&& (31 : Int32))), (.ref a)]))
    obtain ⟨_, T14, L14, X14, ⟨rfl, eh14, rfl⟩, st14⟩ := own_callV X13 hx hZ hown (argsL := [(.int (x1 &&& (31 : Int32)))]) (rest := []) (own_holds1_con l Z a0 hw a b (x1 &&& (31 : Int32)) (4 : Int32) h0 fl av []) e13 ex (hw _ (List.mem_of_getElem? (i := 8) rfl)) (hw _ (List.mem_of_getElem? (i := 9) rfl)) (hw _ (List.mem_of_getElem? (i := 11) rfl)) (hw _ (List.mem_of_getElem? (i := 10) rfl)) (hw _ (List.mem_of_getElem? (i := 6) rfl)) (hw _ (List.mem_of_getElem? (i := 12) rfl)) (notFace_of_selects (args := #[]) (mvT hZ (hw _ (List.mem_of_getElem? (i := 11) rfl)))) (by decide) (by decide +kernel : parseMethodDescriptor "(I)Z" = some ⟨[.int], some .boolean⟩) rfl (g := (mkF m 41 #[.val (.int x0), .val (.int x1), .val (.int (2 : Int32)), .val (.ref a), .val (.int (x1 &&& (31 : Int32))), .val (.int (1 : Int32)), .unset] [(.int (x1 &&& (31 : Int32))), (.ref a)])) rfl (by rw [hml]; rfl) rfl 0 (by show 2 * 0 + _ ≤ _; exact Nat.le_of_eq rfl) (hb hby at_41) (by decide) (by decide) (by decide) (by decide)
    rw [List.append_nil] at X14
    refine own_go st14 ?_
    show own_Go p e below _ (T14.setTop (mkF m 44 #[.val (.int x0), .val (.int x1), .val (.int (2 : Int32)), .val (.ref a), .val (.int (x1 &&& (31 : Int32))), .val (.int (1 : Int32)), .unset] [(.int (if (4 : Int32) = (x1 &&& (31 : Int32)) then (1 : Int32) else (0 : Int32)))]))
    refine own_go (fun _ => XS.iloadN X14.here hx rfl (hb hby at_44) rfl) ?_
    show own_Go p e below _ (T14.setTop (mkF m 45 #[.val (.int x0), .val (.int x1), .val (.int (2 : Int32)), .val (.ref a), .val (.int (x1 &&& (31 : Int32))), .val (.int (1 : Int32)), .unset] [(.int (2 : Int32)), (.int (if (4 : Int32) = (x1 &&& (31 : Int32)) then (1 : Int32) else (0 : Int32)))]))
    refine own_go (fun _ => XS.iload X14.here hx rfl (hb hby at_45) rfl) ?_
    show own_Go p e below _ (T14.setTop (mkF m 47 #[.val (.int x0), .val (.int x1), .val (.int (2 : Int32)), .val (.ref a), .val (.int (x1 &&& (31 : Int32))), .val (.int (1 : Int32)), .unset] [(.int (x1 &&& (31 : Int32))), (.int (2 : Int32)), (.int (if (4 : Int32) = (x1 &&& (31 : Int32)) then (1 : Int32) else (0 : Int32)))]))
    obtain ⟨T15, X15, e15, st15⟩ := own_callSP X14 hx hZ hown (argsL := [(.int (2 : Int32)), (.int (x1 &&& (31 : Int32)))]) (rest := [(.int (if (4 : Int32) = (x1 &&& (31 : Int32)) then (1 : Int32) else (0 : Int32)))]) (own_expected_con l Z a0 hw (2 : Int32) (x1 &&& (31 : Int32)) h0 []) eh14 (hw _ (List.mem_of_getElem? (i := 15) rfl)) (hw _ (List.mem_of_getElem? (i := 16) rfl)) (hw _ (List.mem_of_getElem? (i := 3) rfl)) (hw _ (List.mem_of_getElem? (i := 17) rfl)) (by decide) (by decide +kernel : parseMethodDescriptor "(II)Z" = some ⟨[.int, .int], some .boolean⟩) rfl (g := (mkF m 47 #[.val (.int x0), .val (.int x1), .val (.int (2 : Int32)), .val (.ref a), .val (.int (x1 &&& (31 : Int32))), .val (.int (1 : Int32)), .unset] [(.int (x1 &&& (31 : Int32))), (.int (2 : Int32)), (.int (if (4 : Int32) = (x1 &&& (31 : Int32)) then (1 : Int32) else (0 : Int32)))])) rfl (by rw [hml]; rfl) rfl 1 (by show 2 * 0 + _ ≤ _; exact Nat.le_of_eq rfl) (hb hby at_47) (by decide) (by decide) rfl rfl (by decide) (by decide)
    refine own_go st15 ?_
    show own_Go p e below _ (T15.setTop (mkF m 50 #[.val (.int x0), .val (.int x1), .val (.int (2 : Int32)), .val (.ref a), .val (.int (x1 &&& (31 : Int32))), .val (.int (1 : Int32)), .unset] [(.int (own_expected (2 : Int32) (x1 &&& (31 : Int32)))), (.int (if (4 : Int32) = (x1 &&& (31 : Int32)) then (1 : Int32) else (0 : Int32)))]))
    refine own_go (fun _ => XS.icmpNo X15.here hx rfl (hb hby at_50) rfl (XT.ii_ne_f (own_e2 (x1 &&& (31 : Int32))))) ?_
    show own_Go p e below _ (T15.setTop (mkF m 53 #[.val (.int x0), .val (.int x1), .val (.int (2 : Int32)), .val (.ref a), .val (.int (x1 &&& (31 : Int32))), .val (.int (1 : Int32)), .unset] []))
    refine own_go (fun _ => XS.iconst X15.here hx rfl (hb hby at_53)) ?_
    show own_Go p e below _ (T15.setTop (mkF m 54 #[.val (.int x0), .val (.int x1), .val (.int (2 : Int32)), .val (.ref a), .val (.int (x1 &&& (31 : Int32))), .val (.int (1 : Int32)), .unset] [(.int (1 : Int32))]))
    refine own_go (fun _ => XS.goto X15.here hx rfl (pc0 := 54) (pc' := 58) rfl (hb hby at_54) (by decide) (by decide)) ?_
    show own_Go p e below _ (T15.setTop (mkF m 58 #[.val (.int x0), .val (.int x1), .val (.int (2 : Int32)), .val (.ref a), .val (.int (x1 &&& (31 : Int32))), .val (.int (1 : Int32)), .unset] [(.int (1 : Int32))]))
    refine own_go (fun _ => XS.istore X15.here hx rfl (hb hby at_58) rfl (l' := #[.val (.int x0), .val (.int x1), .val (.int (2 : Int32)), .val (.ref a), .val (.int (x1 &&& (31 : Int32))), .val (.int (1 : Int32)), .val (.int (1 : Int32))]) rfl) ?_
    show own_Go p e below _ (T15.setTop (mkF m 60 #[.val (.int x0), .val (.int x1), .val (.int (2 : Int32)), .val (.ref a), .val (.int (x1 &&& (31 : Int32))), .val (.int (1 : Int32)), .val (.int (1 : Int32))] []))
    refine own_go (fun _ => XS.iload X15.here hx rfl (hb hby at_60) rfl) ?_
    show own_Go p e below _ (T15.setTop (mkF m 62 #[.val (.int x0), .val (.int x1), .val (.int (2 : Int32)), .val (.ref a), .val (.int (x1 &&& (31 : Int32))), .val (.int (1 : Int32)), .val (.int (1 : Int32))] [(.int (1 : Int32))]))
    refine own_go (fun _ => XS.ifNo X15.here hx rfl (hb hby at_62) rfl (XT.i0_eq_f (by decide))) ?_
    show own_Go p e below _ (T15.setTop (mkF m 65 #[.val (.int x0), .val (.int x1), .val (.int (2 : Int32)), .val (.ref a), .val (.int (x1 &&& (31 : Int32))), .val (.int (1 : Int32)), .val (.int (1 : Int32))] []))
    refine own_go (fun _ => XS.iload X15.here hx rfl (hb hby at_65) rfl) ?_
    show own_Go p e below _ (T15.setTop (mkF m 67 #[.val (.int x0), .val (.int x1), .val (.int (2 : Int32)), .val (.ref a), .val (.int (x1 &&& (31 : Int32))), .val (.int (1 : Int32)), .val (.int (1 : Int32))] [(.int (1 : Int32))]))
    refine own_go (fun _ => XS.ifNo X15.here hx rfl (hb hby at_67) rfl (XT.i0_eq_f (by decide))) ?_
    show own_Go p e below _ (T15.setTop (mkF m 70 #[.val (.int x0), .val (.int x1), .val (.int (2 : Int32)), .val (.ref a), .val (.int (x1 &&& (31 : Int32))), .val (.int (1 : Int32)), .val (.int (1 : Int32))] []))
    refine own_go (fun _ => XS.iconst X15.here hx rfl (hb hby at_70)) ?_
    show own_Go p e below _ (T15.setTop (mkF m 71 #[.val (.int x0), .val (.int x1), .val (.int (2 : Int32)), .val (.ref a), .val (.int (x1 &&& (31 : Int32))), .val (.int (1 : Int32)), .val (.int (1 : Int32))] [(.int (1 : Int32))]))
    refine own_go (fun _ => XS.goto X15.here hx rfl (pc0 := 71) (pc' := 75) rfl (hb hby at_71) (by decide) (by decide)) ?_
    show own_Go p e below _ (T15.setTop (mkF m 75 #[.val (.int x0), .val (.int x1), .val (.int (2 : Int32)), .val (.ref a), .val (.int (x1 &&& (31 : Int32))), .val (.int (1 : Int32)), .val (.int (1 : Int32))] [(.int (1 : Int32))]))
    exact own_iret X15 hx hlk hret (Or.inr (Or.inl rfl)) rfl (hb hby at_75) (by decide) (by decide) ⟨rfl, N0⟩
  · skip
    rw [hn]
    show own_Go p e below _ (T.setTop (mkF m 6 #[.val (.int x0), .val (.int x1), .unset, .unset, .unset, .unset, .unset] [(.int (3 : Int32))]))
    obtain ⟨a, b, st, ex, fl, av⟩ := F3
    refine own_go (fun _ => XS.istoreN X.here hx rfl (hb hby at_6) rfl (l' := #[.val (.int x0), .val (.int x1), .val (.int (3 : Int32)), .unset, .unset, .unset, .unset]) rfl) ?_
    show own_Go p e below _ (T.setTop (mkF m 7 #[.val (.int x0), .val (.int x1), .val (.int (3 : Int32)), .unset, .unset, .unset, .unset] []))
    refine own_go (fun _ => XS.iloadN X.here hx rfl (hb hby at_7) rfl) ?_
    show own_Go p e below _ (T.setTop (mkF m 8 #[.val (.int x0), .val (.int x1), .val (.int (3 : Int32)), .unset, .unset, .unset, .unset] [(.int (3 : Int32))]))
    obtain ⟨T16, X16, e16, st16⟩ := own_callSP X hx hZ hown (argsL := [(.int (3 : Int32))]) (rest := []) (own_pick3_con l Z a0 hw a h0 st []) eT (hw _ (List.mem_of_getElem? (i := 1) rfl)) (hw _ (List.mem_of_getElem? (i := 2) rfl)) (hw _ (List.mem_of_getElem? (i := 3) rfl)) (hw _ (List.mem_of_getElem? (i := 4) rfl)) (by decide) (by decide +kernel : parseMethodDescriptor "(I)Lcom/example/jadeite/jadeite/formats/BinaryFormat;" = some ⟨[.int], (some (.object "com/example/jadeite/jadeite/formats/BinaryFormat"))⟩) rfl (g := (mkF m 8 #[.val (.int x0), .val (.int x1), .val (.int (3 : Int32)), .unset, .unset, .unset, .unset] [(.int (3 : Int32))])) rfl (by rw [hml]; rfl) rfl 0 (by show 2 * 0 + _ ≤ _; exact Nat.le_of_eq rfl) (hb hby at_8) (by decide) (by decide) rfl rfl (by decide) (by decide)
    refine own_go st16 ?_
    show own_Go p e below _ (T16.setTop (mkF m 11 #[.val (.int x0), .val (.int x1), .val (.int (3 : Int32)), .unset, .unset, .unset, .unset] [(.ref a)]))
    refine own_go (fun _ => XS.astoreN X16.here hx rfl (hb hby at_11) rfl rfl (l' := #[.val (.int x0), .val (.int x1), .val (.int (3 : Int32)), .val (.ref a), .unset, .unset, .unset]) rfl) ?_
    show own_Go p e below _ (T16.setTop (mkF m 12 #[.val (.int x0), .val (.int x1), .val (.int (3 : Int32)), .val (.ref a), .unset, .unset, .unset] []))
    refine own_go (fun _ => XS.iloadN X16.here hx rfl (hb hby at_12) rfl) ?_
    show own_Go p e below _ (T16.setTop (mkF m 13 #[.val (.int x0), .val (.int x1), .val (.int (3 : Int32)), .val (.ref a), .unset, .unset, .unset] [(.int x1)]))
    refine own_go (fun _ => XS.bipush X16.here hx rfl (hb hby at_13)) ?_
    show own_Go p e below _ (T16.setTop (mkF m 15 #[.val (.int x0), .val (.int x1), .val (.int (3 : Int32)), .val (.ref a), .unset, .unset, .unset] [(.int (31 : Int32)), (.int x1)]))
    refine own_go (fun _ => XS.iand X16.here hx rfl (hb hby at_15) rfl) ?_
    show own_Go p e below _ (T16.setTop (mkF m 16 #[.val (.int x0), .val (.int x1), .val (.int (3 : Int32)), .val (.ref a), .unset, .unset, .unset] [(.int (x1 &&& (31 : Int32)))]))
    refine own_go (fun _ => XS.istore X16.here hx rfl (hb hby at_16) rfl (l' := #[.val (.int x0), .val (.int x1), .val (.int (3 : Int32)), .val (.ref a), .val (.int (x1 &&& (31 : Int32))), .unset, .unset]) rfl) ?_
    show own_Go p e below _ (T16.setTop (mkF m 18 #[.val (.int x0), .val (.int x1), .val (.int (3 : Int32)), .val (.ref a), .val (.int (x1 &&& (31 : Int32))), .unset, .unset] []))
    refine own_go (fun _ => XS.aloadN X16.here hx rfl (hb hby at_18) rfl rfl) ?_
    show own_Go p e below _ (T16.setTop (mkF m 19 #[.val (.int x0), .val (.int x1), .val (.int (3 : Int32)), .val (.ref a), .val (.int (x1 &&& (31 : Int32))), .unset, .unset] [(.ref a)]))
    refine own_go (fun _ => XS.iloadN X16.here hx rfl (hb hby at_19) rfl) ?_
    show own_Go p e below _ (T16.setTop (mkF m 20 #[.val (.int x0), .val (.int x1), .val (.int (3 : Int32)), .val (.ref a), .val (.int (x1 &&& (31 : Int32))), .unset, .unset] [(.int x1), (.ref a)]))
    obtain ⟨_, T17, L17, X17, ⟨rfl, eh17, rfl⟩, st17⟩ := own_callV X16 hx hZ hown (argsL := [(.int x1)]) (rest := []) (own_holds1_con l Z a0 hw a b x1 (16 : Int32) h0 fl av []) e16 ex (hw _ (List.mem_of_getElem? (i := 8) rfl)) (hw _ (List.mem_of_getElem? (i := 9) rfl)) (hw _ (List.mem_of_getElem? (i := 11) rfl)) (hw _ (List.mem_of_getElem? (i := 10) rfl)) (hw _ (List.mem_of_getElem? (i := 6) rfl)) (hw _ (List.mem_of_getElem? (i := 12) rfl)) (notFace_of_selects (args := #[]) (mvT hZ (hw _ (List.mem_of_getElem? (i := 11) rfl)))) (by decide) (by decide +kernel : parseMethodDescriptor "(I)Z" = some ⟨[.int], some .boolean⟩) rfl (g := (mkF m 20 #[.val (.int x0), .val (.int x1), .val (.int (3 : Int32)), .val (.ref a), .val (.int (x1 &&& (31 : Int32))), .unset, .unset] [(.int x1), (.ref a)])) rfl (by rw [hml]; rfl) rfl 0 (by show 2 * 0 + _ ≤ _; exact Nat.le_of_eq rfl) (hb hby at_20) (by decide) (by decide) (by decide) (by decide)
    rw [List.append_nil] at X17
    refine own_go st17 ?_
    show own_Go p e below _ (T17.setTop (mkF m 23 #[.val (.int x0), .val (.int x1), .val (.int (3 : Int32)), .val (.ref a), .val (.int (x1 &&& (31 : Int32))), .unset, .unset] [(.int (if (16 : Int32) = x1 then (1 : Int32) else (0 : Int32)))]))
    refine own_go (fun _ => XS.iloadN X17.here hx rfl (hb hby at_23) rfl) ?_
    show own_Go p e below _ (T17.setTop (mkF m 24 #[.val (.int x0), .val (.int x1), .val (.int (3 : Int32)), .val (.ref a), .val (.int (x1 &&& (31 : Int32))), .unset, .unset] [(.int (3 : Int32)), (.int (if (16 : Int32) = x1 then (1 : Int32) else (0 : Int32)))]))
    refine own_go (fun _ => XS.iloadN X17.here hx rfl (hb hby at_24) rfl) ?_
    show own_Go p e below _ (T17.setTop (mkF m 25 #[.val (.int x0), .val (.int x1), .val (.int (3 : Int32)), .val (.ref a), .val (.int (x1 &&& (31 : Int32))), .unset, .unset] [(.int x1), (.int (3 : Int32)), (.int (if (16 : Int32) = x1 then (1 : Int32) else (0 : Int32)))]))
    obtain ⟨T18, X18, e18, st18⟩ := own_callSP X17 hx hZ hown (argsL := [(.int (3 : Int32)), (.int x1)]) (rest := [(.int (if (16 : Int32) = x1 then (1 : Int32) else (0 : Int32)))]) (own_expected_con l Z a0 hw (3 : Int32) x1 h0 []) eh17 (hw _ (List.mem_of_getElem? (i := 15) rfl)) (hw _ (List.mem_of_getElem? (i := 16) rfl)) (hw _ (List.mem_of_getElem? (i := 3) rfl)) (hw _ (List.mem_of_getElem? (i := 17) rfl)) (by decide) (by decide +kernel : parseMethodDescriptor "(II)Z" = some ⟨[.int, .int], some .boolean⟩) rfl (g := (mkF m 25 #[.val (.int x0), .val (.int x1), .val (.int (3 : Int32)), .val (.ref a), .val (.int (x1 &&& (31 : Int32))), .unset, .unset] [(.int x1), (.int (3 : Int32)), (.int (if (16 : Int32) = x1 then (1 : Int32) else (0 : Int32)))])) rfl (by rw [hml]; rfl) rfl 1 (by show 2 * 0 + _ ≤ _; exact Nat.le_of_eq rfl) (hb hby at_25) (by decide) (by decide) rfl rfl (by decide) (by decide)
    refine own_go st18 ?_
    show own_Go p e below _ (T18.setTop (mkF m 28 #[.val (.int x0), .val (.int x1), .val (.int (3 : Int32)), .val (.ref a), .val (.int (x1 &&& (31 : Int32))), .unset, .unset] [(.int (own_expected (3 : Int32) x1)), (.int (if (16 : Int32) = x1 then (1 : Int32) else (0 : Int32)))]))
    refine own_go (fun _ => XS.icmpNo X18.here hx rfl (hb hby at_28) rfl (XT.ii_ne_f (own_e3 x1))) ?_
    show own_Go p e below _ (T18.setTop (mkF m 31 #[.val (.int x0), .val (.int x1), .val (.int (3 : Int32)), .val (.ref a), .val (.int (x1 &&& (31 : Int32))), .unset, .unset] []))
    refine own_go (fun _ => XS.iconst X18.here hx rfl (hb hby at_31)) ?_
    show own_Go p e below _ (T18.setTop (mkF m 32 #[.val (.int x0), .val (.int x1), .val (.int (3 : Int32)), .val (.ref a), .val (.int (x1 &&& (31 : Int32))), .unset, .unset] [(.int (1 : Int32))]))
    refine own_go (fun _ => XS.goto X18.here hx rfl (pc0 := 32) (pc' := 36) rfl (hb hby at_32) (by decide) (by decide)) ?_
    show own_Go p e below _ (T18.setTop (mkF m 36 #[.val (.int x0), .val (.int x1), .val (.int (3 : Int32)), .val (.ref a), .val (.int (x1 &&& (31 : Int32))), .unset, .unset] [(.int (1 : Int32))]))
    refine own_go (fun _ => XS.istore X18.here hx rfl (hb hby at_36) rfl (l' := #[.val (.int x0), .val (.int x1), .val (.int (3 : Int32)), .val (.ref a), .val (.int (x1 &&& (31 : Int32))), .val (.int (1 : Int32)), .unset]) rfl) ?_
    show own_Go p e below _ (T18.setTop (mkF m 38 #[.val (.int x0), .val (.int x1), .val (.int (3 : Int32)), .val (.ref a), .val (.int (x1 &&& (31 : Int32))), .val (.int (1 : Int32)), .unset] []))
    refine own_go (fun _ => XS.aloadN X18.here hx rfl (hb hby at_38) rfl rfl) ?_
    show own_Go p e below _ (T18.setTop (mkF m 39 #[.val (.int x0), .val (.int x1), .val (.int (3 : Int32)), .val (.ref a), .val (.int (x1 &&& (31 : Int32))), .val (.int (1 : Int32)), .unset] [(.ref a)]))
    refine own_go (fun _ => XS.iload X18.here hx rfl (hb hby at_39) rfl) ?_
    show own_Go p e below _ (T18.setTop (mkF m 41 #[.val (.int x0), .val (.int x1), .val (.int (3 : Int32)), .val (.ref a), .val (.int (x1 &&& (31 : Int32))), .val (.int (1 : Int32)), .unset] [(.int (x1 &&& (31 : Int32))), (.ref a)]))
    obtain ⟨_, T19, L19, X19, ⟨rfl, eh19, rfl⟩, st19⟩ := own_callV X18 hx hZ hown (argsL := [(.int (x1 &&& (31 : Int32)))]) (rest := []) (own_holds1_con l Z a0 hw a b (x1 &&& (31 : Int32)) (16 : Int32) h0 fl av []) e18 ex (hw _ (List.mem_of_getElem? (i := 8) rfl)) (hw _ (List.mem_of_getElem? (i := 9) rfl)) (hw _ (List.mem_of_getElem? (i := 11) rfl)) (hw _ (List.mem_of_getElem? (i := 10) rfl)) (hw _ (List.mem_of_getElem? (i := 6) rfl)) (hw _ (List.mem_of_getElem? (i := 12) rfl)) (notFace_of_selects (args := #[]) (mvT hZ (hw _ (List.mem_of_getElem? (i := 11) rfl)))) (by decide) (by decide +kernel : parseMethodDescriptor "(I)Z" = some ⟨[.int], some .boolean⟩) rfl (g := (mkF m 41 #[.val (.int x0), .val (.int x1), .val (.int (3 : Int32)), .val (.ref a), .val (.int (x1 &&& (31 : Int32))), .val (.int (1 : Int32)), .unset] [(.int (x1 &&& (31 : Int32))), (.ref a)])) rfl (by rw [hml]; rfl) rfl 0 (by show 2 * 0 + _ ≤ _; exact Nat.le_of_eq rfl) (hb hby at_41) (by decide) (by decide) (by decide) (by decide)
    rw [List.append_nil] at X19
    refine own_go st19 ?_
    show own_Go p e below _ (T19.setTop (mkF m 44 #[.val (.int x0), .val (.int x1), .val (.int (3 : Int32)), .val (.ref a), .val (.int (x1 &&& (31 : Int32))), .val (.int (1 : Int32)), .unset] [(.int (if (16 : Int32) = (x1 &&& (31 : Int32)) then (1 : Int32) else (0 : Int32)))]))
    refine own_go (fun _ => XS.iloadN X19.here hx rfl (hb hby at_44) rfl) ?_
    show own_Go p e below _ (T19.setTop (mkF m 45 #[.val (.int x0), .val (.int x1), .val (.int (3 : Int32)), .val (.ref a), .val (.int (x1 &&& (31 : Int32))), .val (.int (1 : Int32)), .unset] [(.int (3 : Int32)), (.int (if (16 : Int32) = (x1 &&& (31 : Int32)) then (1 : Int32) else (0 : Int32)))]))
    refine own_go (fun _ => XS.iload X19.here hx rfl (hb hby at_45) rfl) ?_
    show own_Go p e below _ (T19.setTop (mkF m 47 #[.val (.int x0), .val (.int x1), .val (.int (3 : Int32)), .val (.ref a), .val (.int (x1 &&& (31 : Int32))), .val (.int (1 : Int32)), .unset] [(.int (x1 &&& (31 : Int32))), (.int (3 : Int32)), (.int (if (16 : Int32) = (x1 &&& (31 : Int32)) then (1 : Int32) else (0 : Int32)))]))
    obtain ⟨T20, X20, e20, st20⟩ := own_callSP X19 hx hZ hown (argsL := [(.int (3 : Int32)), (.int (x1 &&& (31 : Int32)))]) (rest := [(.int (if (16 : Int32) = (x1 &&& (31 : Int32)) then (1 : Int32) else (0 : Int32)))]) (own_expected_con l Z a0 hw (3 : Int32) (x1 &&& (31 : Int32)) h0 []) eh19 (hw _ (List.mem_of_getElem? (i := 15) rfl)) (hw _ (List.mem_of_getElem? (i := 16) rfl)) (hw _ (List.mem_of_getElem? (i := 3) rfl)) (hw _ (List.mem_of_getElem? (i := 17) rfl)) (by decide) (by decide +kernel : parseMethodDescriptor "(II)Z" = some ⟨[.int, .int], some .boolean⟩) rfl (g := (mkF m 47 #[.val (.int x0), .val (.int x1), .val (.int (3 : Int32)), .val (.ref a), .val (.int (x1 &&& (31 : Int32))), .val (.int (1 : Int32)), .unset] [(.int (x1 &&& (31 : Int32))), (.int (3 : Int32)), (.int (if (16 : Int32) = (x1 &&& (31 : Int32)) then (1 : Int32) else (0 : Int32)))])) rfl (by rw [hml]; rfl) rfl 1 (by show 2 * 0 + _ ≤ _; exact Nat.le_of_eq rfl) (hb hby at_47) (by decide) (by decide) rfl rfl (by decide) (by decide)
    refine own_go st20 ?_
    show own_Go p e below _ (T20.setTop (mkF m 50 #[.val (.int x0), .val (.int x1), .val (.int (3 : Int32)), .val (.ref a), .val (.int (x1 &&& (31 : Int32))), .val (.int (1 : Int32)), .unset] [(.int (own_expected (3 : Int32) (x1 &&& (31 : Int32)))), (.int (if (16 : Int32) = (x1 &&& (31 : Int32)) then (1 : Int32) else (0 : Int32)))]))
    refine own_go (fun _ => XS.icmpNo X20.here hx rfl (hb hby at_50) rfl (XT.ii_ne_f (own_e3 (x1 &&& (31 : Int32))))) ?_
    show own_Go p e below _ (T20.setTop (mkF m 53 #[.val (.int x0), .val (.int x1), .val (.int (3 : Int32)), .val (.ref a), .val (.int (x1 &&& (31 : Int32))), .val (.int (1 : Int32)), .unset] []))
    refine own_go (fun _ => XS.iconst X20.here hx rfl (hb hby at_53)) ?_
    show own_Go p e below _ (T20.setTop (mkF m 54 #[.val (.int x0), .val (.int x1), .val (.int (3 : Int32)), .val (.ref a), .val (.int (x1 &&& (31 : Int32))), .val (.int (1 : Int32)), .unset] [(.int (1 : Int32))]))
    refine own_go (fun _ => XS.goto X20.here hx rfl (pc0 := 54) (pc' := 58) rfl (hb hby at_54) (by decide) (by decide)) ?_
    show own_Go p e below _ (T20.setTop (mkF m 58 #[.val (.int x0), .val (.int x1), .val (.int (3 : Int32)), .val (.ref a), .val (.int (x1 &&& (31 : Int32))), .val (.int (1 : Int32)), .unset] [(.int (1 : Int32))]))
    refine own_go (fun _ => XS.istore X20.here hx rfl (hb hby at_58) rfl (l' := #[.val (.int x0), .val (.int x1), .val (.int (3 : Int32)), .val (.ref a), .val (.int (x1 &&& (31 : Int32))), .val (.int (1 : Int32)), .val (.int (1 : Int32))]) rfl) ?_
    show own_Go p e below _ (T20.setTop (mkF m 60 #[.val (.int x0), .val (.int x1), .val (.int (3 : Int32)), .val (.ref a), .val (.int (x1 &&& (31 : Int32))), .val (.int (1 : Int32)), .val (.int (1 : Int32))] []))
    refine own_go (fun _ => XS.iload X20.here hx rfl (hb hby at_60) rfl) ?_
    show own_Go p e below _ (T20.setTop (mkF m 62 #[.val (.int x0), .val (.int x1), .val (.int (3 : Int32)), .val (.ref a), .val (.int (x1 &&& (31 : Int32))), .val (.int (1 : Int32)), .val (.int (1 : Int32))] [(.int (1 : Int32))]))
    refine own_go (fun _ => XS.ifNo X20.here hx rfl (hb hby at_62) rfl (XT.i0_eq_f (by decide))) ?_
    show own_Go p e below _ (T20.setTop (mkF m 65 #[.val (.int x0), .val (.int x1), .val (.int (3 : Int32)), .val (.ref a), .val (.int (x1 &&& (31 : Int32))), .val (.int (1 : Int32)), .val (.int (1 : Int32))] []))
    refine own_go (fun _ => XS.iload X20.here hx rfl (hb hby at_65) rfl) ?_
    show own_Go p e below _ (T20.setTop (mkF m 67 #[.val (.int x0), .val (.int x1), .val (.int (3 : Int32)), .val (.ref a), .val (.int (x1 &&& (31 : Int32))), .val (.int (1 : Int32)), .val (.int (1 : Int32))] [(.int (1 : Int32))]))
    refine own_go (fun _ => XS.ifNo X20.here hx rfl (hb hby at_67) rfl (XT.i0_eq_f (by decide))) ?_
    show own_Go p e below _ (T20.setTop (mkF m 70 #[.val (.int x0), .val (.int x1), .val (.int (3 : Int32)), .val (.ref a), .val (.int (x1 &&& (31 : Int32))), .val (.int (1 : Int32)), .val (.int (1 : Int32))] []))
    refine own_go (fun _ => XS.iconst X20.here hx rfl (hb hby at_70)) ?_
    show own_Go p e below _ (T20.setTop (mkF m 71 #[.val (.int x0), .val (.int x1), .val (.int (3 : Int32)), .val (.ref a), .val (.int (x1 &&& (31 : Int32))), .val (.int (1 : Int32)), .val (.int (1 : Int32))] [(.int (1 : Int32))]))
    refine own_go (fun _ => XS.goto X20.here hx rfl (pc0 := 71) (pc' := 75) rfl (hb hby at_71) (by decide) (by decide)) ?_
    show own_Go p e below _ (T20.setTop (mkF m 75 #[.val (.int x0), .val (.int x1), .val (.int (3 : Int32)), .val (.ref a), .val (.int (x1 &&& (31 : Int32))), .val (.int (1 : Int32)), .val (.int (1 : Int32))] [(.int (1 : Int32))]))
    exact own_iret X20 hx hlk hret (Or.inr (Or.inl rfl)) rfl (hb hby at_75) (by decide) (by decide) ⟨rfl, N0⟩
  · skip
    rw [hn]
    show own_Go p e below _ (T.setTop (mkF m 6 #[.val (.int x0), .val (.int x1), .unset, .unset, .unset, .unset, .unset] [(.int (4 : Int32))]))
    obtain ⟨a, b, st, ex, fl, av⟩ := F4
    refine own_go (fun _ => XS.istoreN X.here hx rfl (hb hby at_6) rfl (l' := #[.val (.int x0), .val (.int x1), .val (.int (4 : Int32)), .unset, .unset, .unset, .unset]) rfl) ?_
    show own_Go p e below _ (T.setTop (mkF m 7 #[.val (.int x0), .val (.int x1), .val (.int (4 : Int32)), .unset, .unset, .unset, .unset] []))
    refine own_go (fun _ => XS.iloadN X.here hx rfl (hb hby at_7) rfl) ?_
    show own_Go p e below _ (T.setTop (mkF m 8 #[.val (.int x0), .val (.int x1), .val (.int (4 : Int32)), .unset, .unset, .unset, .unset] [(.int (4 : Int32))]))
    obtain ⟨T21, X21, e21, st21⟩ := own_callSP X hx hZ hown (argsL := [(.int (4 : Int32))]) (rest := []) (own_pick4_con l Z a0 hw a h0 st []) eT (hw _ (List.mem_of_getElem? (i := 1) rfl)) (hw _ (List.mem_of_getElem? (i := 2) rfl)) (hw _ (List.mem_of_getElem? (i := 3) rfl)) (hw _ (List.mem_of_getElem? (i := 4) rfl)) (by decide) (by decide +kernel : parseMethodDescriptor "(I)Lcom/example/jadeite/jadeite/formats/BinaryFormat;" = some ⟨[.int], (some (.object "com/example/jadeite/jadeite/formats/BinaryFormat"))⟩) rfl (g := (mkF m 8 #[.val (.int x0), .val (.int x1), .val (.int (4 : Int32)), .unset, .unset, .unset, .unset] [(.int (4 : Int32))])) rfl (by rw [hml]; rfl) rfl 0 (by show 2 * 0 + _ ≤ _; exact Nat.le_of_eq rfl) (hb hby at_8) (by decide) (by decide) rfl rfl (by decide) (by decide)
    refine own_go st21 ?_
    show own_Go p e below _ (T21.setTop (mkF m 11 #[.val (.int x0), .val (.int x1), .val (.int (4 : Int32)), .unset, .unset, .unset, .unset] [(.ref a)]))
    refine own_go (fun _ => XS.astoreN X21.here hx rfl (hb hby at_11) rfl rfl (l' := #[.val (.int x0), .val (.int x1), .val (.int (4 : Int32)), .val (.ref a), .unset, .unset, .unset]) rfl) ?_
    show own_Go p e below _ (T21.setTop (mkF m 12 #[.val (.int x0), .val (.int x1), .val (.int (4 : Int32)), .val (.ref a), .unset, .unset, .unset] []))
    refine own_go (fun _ => XS.iloadN X21.here hx rfl (hb hby at_12) rfl) ?_
    show own_Go p e below _ (T21.setTop (mkF m 13 #[.val (.int x0), .val (.int x1), .val (.int (4 : Int32)), .val (.ref a), .unset, .unset, .unset] [(.int x1)]))
    refine own_go (fun _ => XS.bipush X21.here hx rfl (hb hby at_13)) ?_
    show own_Go p e below _ (T21.setTop (mkF m 15 #[.val (.int x0), .val (.int x1), .val (.int (4 : Int32)), .val (.ref a), .unset, .unset, .unset] [(.int (31 : Int32)), (.int x1)]))
    refine own_go (fun _ => XS.iand X21.here hx rfl (hb hby at_15) rfl) ?_
    show own_Go p e below _ (T21.setTop (mkF m 16 #[.val (.int x0), .val (.int x1), .val (.int (4 : Int32)), .val (.ref a), .unset, .unset, .unset] [(.int (x1 &&& (31 : Int32)))]))
    refine own_go (fun _ => XS.istore X21.here hx rfl (hb hby at_16) rfl (l' := #[.val (.int x0), .val (.int x1), .val (.int (4 : Int32)), .val (.ref a), .val (.int (x1 &&& (31 : Int32))), .unset, .unset]) rfl) ?_
    show own_Go p e below _ (T21.setTop (mkF m 18 #[.val (.int x0), .val (.int x1), .val (.int (4 : Int32)), .val (.ref a), .val (.int (x1 &&& (31 : Int32))), .unset, .unset] []))
    refine own_go (fun _ => XS.aloadN X21.here hx rfl (hb hby at_18) rfl rfl) ?_
    show own_Go p e below _ (T21.setTop (mkF m 19 #[.val (.int x0), .val (.int x1), .val (.int (4 : Int32)), .val (.ref a), .val (.int (x1 &&& (31 : Int32))), .unset, .unset] [(.ref a)]))
    refine own_go (fun _ => XS.iloadN X21.here hx rfl (hb hby at_19) rfl) ?_
    show own_Go p e below _ (T21.setTop (mkF m 20 #[.val (.int x0), .val (.int x1), .val (.int (4 : Int32)), .val (.ref a), .val (.int (x1 &&& (31 : Int32))), .unset, .unset] [(.int x1), (.ref a)]))
    obtain ⟨_, T22, L22, X22, ⟨rfl, eh22, rfl⟩, st22⟩ := own_callV X21 hx hZ hown (argsL := [(.int x1)]) (rest := []) (own_holds2_con l Z a0 hw a b x1 (6 : Int32) (8 : Int32) h0 fl av []) e21 ex (hw _ (List.mem_of_getElem? (i := 8) rfl)) (hw _ (List.mem_of_getElem? (i := 9) rfl)) (hw _ (List.mem_of_getElem? (i := 11) rfl)) (hw _ (List.mem_of_getElem? (i := 10) rfl)) (hw _ (List.mem_of_getElem? (i := 6) rfl)) (hw _ (List.mem_of_getElem? (i := 12) rfl)) (notFace_of_selects (args := #[]) (mvT hZ (hw _ (List.mem_of_getElem? (i := 11) rfl)))) (by decide) (by decide +kernel : parseMethodDescriptor "(I)Z" = some ⟨[.int], some .boolean⟩) rfl (g := (mkF m 20 #[.val (.int x0), .val (.int x1), .val (.int (4 : Int32)), .val (.ref a), .val (.int (x1 &&& (31 : Int32))), .unset, .unset] [(.int x1), (.ref a)])) rfl (by rw [hml]; rfl) rfl 0 (by show 2 * 0 + _ ≤ _; exact Nat.le_of_eq rfl) (hb hby at_20) (by decide) (by decide) (by decide) (by decide)
    rw [List.append_nil] at X22
    refine own_go st22 ?_
    show own_Go p e below _ (T22.setTop (mkF m 23 #[.val (.int x0), .val (.int x1), .val (.int (4 : Int32)), .val (.ref a), .val (.int (x1 &&& (31 : Int32))), .unset, .unset] [(.int (if (6 : Int32) = x1 then (1 : Int32) else (if (8 : Int32) = x1 then (1 : Int32) else (0 : Int32))))]))
    refine own_go (fun _ => XS.iloadN X22.here hx rfl (hb hby at_23) rfl) ?_
    show own_Go p e below _ (T22.setTop (mkF m 24 #[.val (.int x0), .val (.int x1), .val (.int (4 : Int32)), .val (.ref a), .val (.int (x1 &&& (31 : Int32))), .unset, .unset] [(.int (4 : Int32)), (.int (if (6 : Int32) = x1 then (1 : Int32) else (if (8 : Int32) = x1 then (1 : Int32) else (0 : Int32))))]))
    refine own_go (fun _ => XS.iloadN X22.here hx rfl (hb hby at_24) rfl) ?_
    show own_Go p e below _ (T22.setTop (mkF m 25 #[.val (.int x0), .val (.int x1), .val (.int (4 : Int32)), .val (.ref a), .val (.int (x1 &&& (31 : Int32))), .unset, .unset] [(.int x1), (.int (4 : Int32)), (.int (if (6 : Int32) = x1 then (1 : Int32) else (if (8 : Int32) = x1 then (1 : Int32) else (0 : Int32))))]))
    obtain ⟨T23, X23, e23, st23⟩ := own_callSP X22 hx hZ hown (argsL := [(.int (4 : Int32)), (.int x1)]) (rest := [(.int (if (6 : Int32) = x1 then (1 : Int32) else (if (8 : Int32) = x1 then (1 : Int32) else (0 : Int32))))]) (own_expected_con l Z a0 hw (4 : Int32) x1 h0 []) eh22 (hw _ (List.mem_of_getElem? (i := 15) rfl)) (hw _ (List.mem_of_getElem? (i := 16) rfl)) (hw _ (List.mem_of_getElem? (i := 3) rfl)) (hw _ (List.mem_of_getElem? (i := 17) rfl)) (by decide) (by decide +kernel : parseMethodDescriptor "(II)Z" = some ⟨[.int, .int], some .boolean⟩) rfl (g := (mkF m 25 #[.val (.int x0), .val (.int x1), .val (.int (4 : Int32)), .val (.ref a), .val (.int (x1 &&& (31 : Int32))), .unset, .unset] [(.int x1), (.int (4 : Int32)), (.int (if (6 : Int32) = x1 then (1 : Int32) else (if (8 : Int32) = x1 then (1 : Int32) else (0 : Int32))))])) rfl (by rw [hml]; rfl) rfl 1 (by show 2 * 0 + _ ≤ _; exact Nat.le_of_eq rfl) (hb hby at_25) (by decide) (by decide) rfl rfl (by decide) (by decide)
    refine own_go st23 ?_
    show own_Go p e below _ (T23.setTop (mkF m 28 #[.val (.int x0), .val (.int x1), .val (.int (4 : Int32)), .val (.ref a), .val (.int (x1 &&& (31 : Int32))), .unset, .unset] [(.int (own_expected (4 : Int32) x1)), (.int (if (6 : Int32) = x1 then (1 : Int32) else (if (8 : Int32) = x1 then (1 : Int32) else (0 : Int32))))]))
    refine own_go (fun _ => XS.icmpNo X23.here hx rfl (hb hby at_28) rfl (XT.ii_ne_f (own_e4 x1))) ?_
    show own_Go p e below _ (T23.setTop (mkF m 31 #[.val (.int x0), .val (.int x1), .val (.int (4 : Int32)), .val (.ref a), .val (.int (x1 &&& (31 : Int32))), .unset, .unset] []))
    refine own_go (fun _ => XS.iconst X23.here hx rfl (hb hby at_31)) ?_
    show own_Go p e below _ (T23.setTop (mkF m 32 #[.val (.int x0), .val (.int x1), .val (.int (4 : Int32)), .val (.ref a), .val (.int (x1 &&& (31 : Int32))), .unset, .unset] [(.int (1 : Int32))]))
    refine own_go (fun _ => XS.goto X23.here hx rfl (pc0 := 32) (pc' := 36) rfl (hb hby at_32) (by decide) (by decide)) ?_
    show own_Go p e below _ (T23.setTop (mkF m 36 #[.val (.int x0), .val (.int x1), .val (.int (4 : Int32)), .val (.ref a), .val (.int (x1 &&& (31 : Int32))), .unset, .unset] [(.int (1 : Int32))]))
    refine own_go (fun _ => XS.istore X23.here hx rfl (hb hby at_36) rfl (l' := #[.val (.int x0), .val (.int x1), .val (.int (4 : Int32)), .val (.ref a), .val (.int (x1 &&& (31 : Int32))), .val (.int (1 : Int32)), .unset]) rfl) ?_
    show own_Go p e below _ (T23.setTop (mkF m 38 #[.val (.int x0), .val (.int x1), .val (.int (4 : Int32)), .val (.ref a), .val (.int (x1 &&& (31 : Int32))), .val (.int (1 : Int32)), .unset] []))
    refine own_go (fun _ => XS.aloadN X23.here hx rfl (hb hby at_38) rfl rfl) ?_
    show own_Go p e below _ (T23.setTop (mkF m 39 #[.val (.int x0), .val (.int x1), .val (.int (4 : Int32)), .val (.ref a), .val (.int (x1 &&& (31 : Int32))), .val (.int (1 : Int32)), .unset] [(.ref a)]))
    refine own_go (fun _ => XS.iload X23.here hx rfl (hb hby at_39) rfl) ?_
    show own_Go p e below _ (T23.setTop (mkF m 41 #[.val (.int x0), .val (.int x1), .val (.int (4 : Int32)), .val (.ref a), .val (.int (x1 &&& (31 : Int32))), .val (.int (1 : Int32)), .unset] [(.int (x1 &&& (31 : Int32))), (.ref a)]))
    obtain ⟨_, T24, L24, X24, ⟨rfl, eh24, rfl⟩, st24⟩ := own_callV X23 hx hZ hown (argsL := [(.int (x1 &&& (31 : Int32)))]) (rest := []) (own_holds2_con l Z a0 hw a b (x1 &&& (31 : Int32)) (6 : Int32) (8 : Int32) h0 fl av []) e23 ex (hw _ (List.mem_of_getElem? (i := 8) rfl)) (hw _ (List.mem_of_getElem? (i := 9) rfl)) (hw _ (List.mem_of_getElem? (i := 11) rfl)) (hw _ (List.mem_of_getElem? (i := 10) rfl)) (hw _ (List.mem_of_getElem? (i := 6) rfl)) (hw _ (List.mem_of_getElem? (i := 12) rfl)) (notFace_of_selects (args := #[]) (mvT hZ (hw _ (List.mem_of_getElem? (i := 11) rfl)))) (by decide) (by decide +kernel : parseMethodDescriptor "(I)Z" = some ⟨[.int], some .boolean⟩) rfl (g := (mkF m 41 #[.val (.int x0), .val (.int x1), .val (.int (4 : Int32)), .val (.ref a), .val (.int (x1 &&& (31 : Int32))), .val (.int (1 : Int32)), .unset] [(.int (x1 &&& (31 : Int32))), (.ref a)])) rfl (by rw [hml]; rfl) rfl 0 (by show 2 * 0 + _ ≤ _; exact Nat.le_of_eq rfl) (hb hby at_41) (by decide) (by decide) (by decide) (by decide)
    rw [List.append_nil] at X24
    refine own_go st24 ?_
    show own_Go p e below _ (T24.setTop (mkF m 44 #[.val (.int x0), .val (.int x1), .val (.int (4 : Int32)), .val (.ref a), .val (.int (x1 &&& (31 : Int32))), .val (.int (1 : Int32)), .unset] [(.int (if (6 : Int32) = (x1 &&& (31 : Int32)) then (1 : Int32) else (if (8 : Int32) = (x1 &&& (31 : Int32)) then (1 : Int32) else (0 : Int32))))]))
    refine own_go (fun _ => XS.iloadN X24.here hx rfl (hb hby at_44) rfl) ?_
    show own_Go p e below _ (T24.setTop (mkF m 45 #[.val (.int x0), .val (.int x1), .val (.int (4 : Int32)), .val (.ref a), .val (.int (x1 &&& (31 : Int32))), .val (.int (1 : Int32)), .unset] [(.int (4 : Int32)), (.int (if (6 : Int32) = (x1 &&& (31 : Int32)) then (1 : Int32) else (if (8 : Int32) = (x1 &&& (31 : Int32)) then (1 : Int32) else (0 : Int32))))]))
    refine own_go (fun _ => XS.iload X24.here hx rfl (hb hby at_45) rfl) ?_
    show own_Go p e below _ (T24.setTop (mkF m 47 #[.val (.int x0), .val (.int x1), .val (.int (4 : Int32)), .val (.ref a), .val (.int (x1 &&& (31 : Int32))), .val (.int (1 : Int32)), .unset] [(.int (x1 &&& (31 : Int32))), (.int (4 : Int32)), (.int (if (6 : Int32) = (x1 &&& (31 : Int32)) then (1 : Int32) else (if (8 : Int32) = (x1 &&& (31 : Int32)) then (1 : Int32) else (0 : Int32))))]))
    obtain ⟨T25, X25, e25, st25⟩ := own_callSP X24 hx hZ hown (argsL := [(.int (4 : Int32)), (.int (x1 &&& (31 : Int32)))]) (rest := [(.int (if (6 : Int32) = (x1 &&& (31 : Int32)) then (1 : Int32) else (if (8 : Int32) = (x1 &&& (31 : Int32)) then (1 : Int32) else (0 : Int32))))]) (own_expected_con l Z a0 hw (4 : Int32) (x1 &&& (31 : Int32)) h0 []) eh24 (hw _ (List.mem_of_getElem? (i := 15) rfl)) (hw _ (List.mem_of_getElem? (i := 16) rfl)) (hw _ (List.mem_of_getElem? (i := 3) rfl)) (hw _ (List.mem_of_getElem? (i := 17) rfl)) (by decide) (by decide +kernel : parseMethodDescriptor "(II)Z" = some ⟨[.int, .int], some .boolean⟩) rfl (g := (mkF m 47 #[.val (.int x0), .val (.int x1), .val (.int (4 : Int32)), .val (.ref a), .val (.int (x1 &&& (31 : Int32))), .val (.int (1 : Int32)), .unset] [(.int (x1 &&& (31 : Int32))), (.int (4 : Int32)), (.int (if (6 : Int32) = (x1 &&& (31 : Int32)) then (1 : Int32) else (if (8 : Int32) = (x1 &&& (31 : Int32)) then (1 : Int32) else (0 : Int32))))])) rfl (by rw [hml]; rfl) rfl 1 (by show 2 * 0 + _ ≤ _; exact Nat.le_of_eq rfl) (hb hby at_47) (by decide) (by decide) rfl rfl (by decide) (by decide)
    refine own_go st25 ?_
    show own_Go p e below _ (T25.setTop (mkF m 50 #[.val (.int x0), .val (.int x1), .val (.int (4 : Int32)), .val (.ref a), .val (.int (x1 &&& (31 : Int32))), .val (.int (1 : Int32)), .unset] [(.int (own_expected (4 : Int32) (x1 &&& (31 : Int32)))), (.int (if (6 : Int32) = (x1 &&& (31 : Int32)) then (1 : Int32) else (if (8 : Int32) = (x1 &&& (31 : Int32)) then (1 : Int32) else (0 : Int32))))]))
    refine own_go (fun _ => XS.icmpNo X25.here hx rfl (hb hby at_50) rfl (XT.ii_ne_f (own_e4 (x1 &&& (31 : Int32))))) ?_
    show own_Go p e below _ (T25.setTop (mkF m 53 #[.val (.int x0), .val (.int x1), .val (.int (4 : Int32)), .val (.ref a), .val (.int (x1 &&& (31 : Int32))), .val (.int (1 : Int32)), .unset] []))
    refine own_go (fun _ => XS.iconst X25.here hx rfl (hb hby at_53)) ?_
    show own_Go p e below _ (T25.setTop (mkF m 54 #[.val (.int x0), .val (.int x1), .val (.int (4 : Int32)), .val (.ref a), .val (.int (x1 &&& (31 : Int32))), .val (.int (1 : Int32)), .unset] [(.int (1 : Int32))]))
    refine own_go (fun _ => XS.goto X25.here hx rfl (pc0 := 54) (pc' := 58) rfl (hb hby at_54) (by decide) (by decide)) ?_
    show own_Go p e below _ (T25.setTop (mkF m 58 #[.val (.int x0), .val (.int x1), .val (.int (4 : Int32)), .val (.ref a), .val (.int (x1 &&& (31 : Int32))), .val (.int (1 : Int32)), .unset] [(.int (1 : Int32))]))
    refine own_go (fun _ => XS.istore X25.here hx rfl (hb hby at_58) rfl (l' := #[.val (.int x0), .val (.int x1), .val (.int (4 : Int32)), .val (.ref a), .val (.int (x1 &&& (31 : Int32))), .val (.int (1 : Int32)), .val (.int (1 : Int32))]) rfl) ?_
    show own_Go p e below _ (T25.setTop (mkF m 60 #[.val (.int x0), .val (.int x1), .val (.int (4 : Int32)), .val (.ref a), .val (.int (x1 &&& (31 : Int32))), .val (.int (1 : Int32)), .val (.int (1 : Int32))] []))
    refine own_go (fun _ => XS.iload X25.here hx rfl (hb hby at_60) rfl) ?_
    show own_Go p e below _ (T25.setTop (mkF m 62 #[.val (.int x0), .val (.int x1), .val (.int (4 : Int32)), .val (.ref a), .val (.int (x1 &&& (31 : Int32))), .val (.int (1 : Int32)), .val (.int (1 : Int32))] [(.int (1 : Int32))]))
    refine own_go (fun _ => XS.ifNo X25.here hx rfl (hb hby at_62) rfl (XT.i0_eq_f (by decide))) ?_
    show own_Go p e below _ (T25.setTop (mkF m 65 #[.val (.int x0), .val (.int x1), .val (.int (4 : Int32)), .val (.ref a), .val (.int (x1 &&& (31 : Int32))), .val (.int (1 : Int32)), .val (.int (1 : Int32))] []))
    refine own_go (fun _ => XS.iload X25.here hx rfl (hb hby at_65) rfl) ?_
    show own_Go p e below _ (T25.setTop (mkF m 67 #[.val (.int x0), .val (.int x1), .val (.int (4 : Int32)), .val (.ref a), .val (.int (x1 &&& (31 : Int32))), .val (.int (1 : Int32)), .val (.int (1 : Int32))] [(.int (1 : Int32))]))
    refine own_go (fun _ => XS.ifNo X25.here hx rfl (hb hby at_67) rfl (XT.i0_eq_f (by decide))) ?_
    show own_Go p e below _ (T25.setTop (mkF m 70 #[.val (.int x0), .val (.int x1), .val (.int (4 : Int32)), .val (.ref a), .val (.int (x1 &&& (31 : Int32))), .val (.int (1 : Int32)), .val (.int (1 : Int32))] []))
    refine own_go (fun _ => XS.iconst X25.here hx rfl (hb hby at_70)) ?_
    show own_Go p e below _ (T25.setTop (mkF m 71 #[.val (.int x0), .val (.int x1), .val (.int (4 : Int32)), .val (.ref a), .val (.int (x1 &&& (31 : Int32))), .val (.int (1 : Int32)), .val (.int (1 : Int32))] [(.int (1 : Int32))]))
    refine own_go (fun _ => XS.goto X25.here hx rfl (pc0 := 71) (pc' := 75) rfl (hb hby at_71) (by decide) (by decide)) ?_
    show own_Go p e below _ (T25.setTop (mkF m 75 #[.val (.int x0), .val (.int x1), .val (.int (4 : Int32)), .val (.ref a), .val (.int (x1 &&& (31 : Int32))), .val (.int (1 : Int32)), .val (.int (1 : Int32))] [(.int (1 : Int32))]))
    exact own_iret X25 hx hlk hret (Or.inr (Or.inl rfl)) rfl (hb hby at_75) (by decide) (by decide) ⟨rfl, N0⟩
set_option maxRecDepth 65536 in
set_option maxHeartbeats 40000000 in
theorem comes_1 {Post : Tables → Env → Array Value → State → Outcome → State → Prop} (hpost : ∀ tb e args s v u, (limb_1_1.after args s (.returned v) u = true ∧ limb_1_2.after args s (.returned v) u = true ∧ True) → FrameEnd s (.returned v) u (Jvm.fieldLocs frame_1_writes args s ++ Jvm.arrayLocs frame_1_arrays args s ++ Jvm.staticLocs frame_1_statics s) 0 0 → Post tb e args s (.returned v) u) :
    ArmFor flags0 classFile x code maxLocals ret World_1 tables_1 room_1 Calls_1 rest_1 Pre_1 Post := by
  intro l hfl _ _ p e ha hc hk s m args below hf hA hF happ hP
  obtain ⟨hcalls, hrest, hpre⟩ := hP
  obtain ⟨-, -, -, hnamed, -, -, -, hat⟩ := (Spec.applies_iff hf).mp happ
  obtain ⟨hg, hn⟩ := and_e (Cond.before_iff.mp (show (Jvm.Cond.and given_1 narrow_1).before args s = true from hpre))
  obtain ⟨gc, gr0⟩ := and_e hg
  obtain ⟨g0, gr1⟩ := and_e gr0
  obtain ⟨w0, w1, rfl⟩ : ∃ w0 w1 : Value, args = #[w0, w1] := by
    have hs : args.size = 2 := by simpa [Cond.value, given_1] using gc
    obtain ⟨L⟩ := args
    match L, hs with
    | [w0, w1], _ => exact ⟨w0, w1, rfl⟩
  have hw := fun d (hd : d ∈ tables_1) => atoms_spec (ws := Jvm.Cond.code x code maxLocals ret :: tables_1) hat d (List.mem_cons_of_mem _ hd)
  have hfit : Fit s := fun {y c} hc i hi => by
    obtain ⟨ha, rfl⟩ := Array.getElem?_eq_some_iff.mp hc
    have q := List.all_eq_true.mp ((Array.all_eq_true_iff_forall_mem.mp hF) _ (Array.getElem_mem ha)) i (List.mem_range.mpr hi)
    simpa [Array.getElem?_eq_getElem hi] using q
  obtain ⟨i0, ei0⟩ := is_v g0
  obtain rfl : w0 = (.int i0) := Option.some.inj ei0
  obtain ⟨i1, ei1⟩ := is_v gr1
  obtain rfl : w1 = (.int i1) := Option.some.inj ei1
  obtain ⟨c1, r1⟩ := and_e hn
  obtain ⟨c2, r2⟩ := and_e r1
  obtain ⟨c3, r3⟩ := and_e r2
  obtain ⟨c4, r4⟩ := and_e r3
  obtain ⟨c5, r5⟩ := and_e r4
  obtain ⟨c6, r6⟩ := and_e r5
  obtain ⟨c7, r7⟩ := and_e r6
  obtain ⟨c8, r8⟩ := and_e r7
  obtain ⟨c9, r9⟩ := and_e r8
  obtain ⟨c10, r10⟩ := and_e r9
  obtain ⟨c11, r11⟩ := and_e r10
  obtain ⟨c12, r12⟩ := and_e r11
  obtain ⟨c13, r13⟩ := and_e r12
  obtain ⟨c14, r14⟩ := and_e r13
  obtain ⟨c15, r15⟩ := and_e r14
  obtain ⟨c16, r16⟩ := and_e r15
  obtain ⟨c17, r17⟩ := and_e r16
  obtain ⟨c18, r18⟩ := and_e r17
  have F0 := own_fmt (xs := []) (nm := "BASE64URL") (hw _ (List.mem_of_getElem? (i := 6) rfl)) (hw _ (List.mem_of_getElem? (i := 7) rfl)) c1 c2 (n := 0) (by decide) c3 (fun i hi => by exact absurd hi (Nat.not_lt_zero _))
  have F1 := own_fmt (xs := []) (nm := "HEX") (hw _ (List.mem_of_getElem? (i := 6) rfl)) (hw _ (List.mem_of_getElem? (i := 23) rfl)) c13 c14 (n := 0) (by decide) c15 (fun i hi => by exact absurd hi (Nat.not_lt_zero _))
  have F2 := own_fmt (xs := [4]) (nm := "IPV4_ADDR") (hw _ (List.mem_of_getElem? (i := 6) rfl)) (hw _ (List.mem_of_getElem? (i := 25) rfl)) c16 c17 (n := 1) (by decide) c18 (fun i hi => by match i, hi with
    | 0, _ => exact ⟨0, by decide, r18⟩)
  have F3 := own_fmt (xs := [16]) (nm := "IPV6_ADDR") (hw _ (List.mem_of_getElem? (i := 6) rfl)) (hw _ (List.mem_of_getElem? (i := 21) rfl)) c9 c10 (n := 1) (by decide) c11 (fun i hi => by match i, hi with
    | 0, _ => exact ⟨0, by decide, c12⟩)
  have F4 := own_fmt (xs := [6, 8]) (nm := "EUI") (hw _ (List.mem_of_getElem? (i := 6) rfl)) (hw _ (List.mem_of_getElem? (i := 19) rfl)) c4 c5 (n := 2) (by decide) c6 (fun i hi => by match i, hi with
    | 0, _ => exact ⟨0, by decide, c7⟩
    | 1, _ => exact ⟨1, by decide, c8⟩)
  obtain ⟨n, o, h1, h2, h3, _, L, rfl, ⟨rfl, N⟩, hq⟩ := own_main_con l s _ hw i0 i1 s.heap F0 F1 F2 F3 F4 tables_1 p e ha hc hk s m _ below hf ((Spec.applies_iff_loose hf).mp happ).1 ⟨rfl, State.Warmed39.refl s, rfl⟩ trivial
  refine ⟨n, _, h1, h2, h3, hpost _ _ _ _ _ _ ⟨Cond.after_iff.mpr rfl, Cond.after_iff.mpr (eq_i res_at (Term.int_eval (1)) rfl), trivial⟩ ⟨hq.1, hq.2.1, (hq.2.2.sift fun y hy => Or.inr (N y hy)).mono (by decide) (by decide)⟩⟩
theorem main_1_1 : Claimed_1_1 := comes_1 fun _ _ _ _ _ _ h hF => ⟨h.1, hF⟩
theorem main_1_2 : Claimed_1_2 := comes_1 fun _ _ _ _ _ _ h hF => ⟨h.2.1, hF⟩
end Jvm.Pilot.@@N@@
namespace Jvm.Pilot.@@N@@
open Jvm Jvm.ClassFile Sem Op Lib Jvm.Free Jvm.Stand Jvm.Pilot.@@N@@.Jvm.D
/-! MADE BY PROGRAM (witnessworld.py) out of the Statement's table words and the real class files: 12 classes; the members and pool entries that the words name. The judged class is class 1, her method 3. -/
namespace start1
open Jvm.ClassFile
def u (s : String) : CpInfo := .utf8 (stringToUtf16 s)
/-- a pool by its gaps: so many unusable entries, then the entry; so many at the end -/
def gap : Nat → List CpInfo → List CpInfo
  | 0, r => r
  | n + 1, r => .unusable :: gap n r
def poolList (es : List (Nat × CpInfo)) (last : Nat) : List CpInfo := es.foldr (fun e r => gap e.1 (e.2 :: r)) (gap last [])
def pool (es : List (Nat × CpInfo)) (last : Nat) : Array CpInfo := ⟨poolList es last⟩
def fileOf (pool : Array CpInfo) (this : Nat) (attrs : Array Attribute := #[]) (ms : Array MethodInfo := #[]) (fl : Nat := 33) (sup : Nat := 0) (ifs : Array Nat := #[]) (fds : Array FieldInfo := #[]) : ClassFile where
  minorVersion := 0
  majorVersion := 65
  constantPool := pool
  accessFlags := fl
  thisClass := this
  superClass := sup
  interfaces := ifs
  fields := fds
  methods := ms
  attributes := attrs
def plain (name : String) (sup : Option ClassId) : Class where
  name := name
  kind := .ordinary
  loader := none
  accessFlags := 33
  super := sup
  interfaces := #[]
  cf := none
  fields := #[]
  methods := #[]
  instanceTypes := #[]
  staticTypes := #[]
  resolved := #[]
  callSites := []
  init := .initialized
  statics := none
  mirror := none

def pool0 : Array CpInfo := pool [(5, u "<init>"), (0, u "()V"), (1, .class_ 10), (1, u "java/lang/Object")] 113

def k0m0 : Method := { name := "<init>", desc := "()V", sig := { parameters := [], returnType := none }, accessFlags := 1, code := none }
/-- java/lang/Object -/
def k0 : Class := { plain "java/lang/Object" none with
  accessFlags := 33
  interfaces := #[]
  cf := some (fileOf pool0 8 #[] #[{ accessFlags := 1, nameIndex := 5, descriptorIndex := 6, attributes := #[] }] 33 0 #[] #[])
  fields := #[]
  methods := #[k0m0]
  instanceTypes := #[]
  staticTypes := #[]
  resolved := Array.replicate 124 none
  statics := none }

def pool1 : Array CpInfo := pool [(2, .class_ 4), (1, u "java/lang/Object"), (0, u "<init>"), (0, u "()V"), (0, .fieldref 8 9), (0, .class_ 10), (0, .nameAndType 11 12), (0, u "com/example/jadeite/jadeite/formats/BinaryFormat"), (0, u "BASE64URL"), (0, u "Lcom/example/jadeite/jadeite/formats/BinaryFormat;"), (0, .fieldref 8 14), (0, .nameAndType 15 12), (0, u "HEX"), (0, .fieldref 8 17), (0, .nameAndType 18 12), (0, u "IPV4_ADDR"), (0, .fieldref 8 20), (0, .nameAndType 21 12), (0, u "IPV6_ADDR"), (0, .fieldref 8 23), (0, .nameAndType 24 12), (0, u "EUI"), (0, .integer 2147483647), (0, .methodref 27 28), (0, .class_ 29), (0, .nameAndType 30 31), (0, u "com/example/jadeite/jadeite/formats/BinaryFormatHoldsPinLaw"), (0, u "pick"), (0, u "(I)Lcom/example/jadeite/jadeite/formats/BinaryFormat;"), (0, .methodref 8 33), (0, .nameAndType 34 35), (0, u "holds"), (0, u "(I)Z"), (0, .methodref 27 37), (0, .nameAndType 38 39), (0, u "expected"), (0, u "(II)Z"), (3, u "law")] 2

def k1m0 : Method := { name := "<init>", desc := "()V", sig := { parameters := [], returnType := none }, accessFlags := 2, code := none }
def k1c1 : Code := { maxStack := 2, maxLocals := 1, code := method_2_code, exceptionTable := #[], attributes := #[] }
def k1m1 : Method := { name := "pick", desc := "(I)Lcom/example/jadeite/jadeite/formats/BinaryFormat;", sig := { parameters := [.int], returnType := some (.object "com/example/jadeite/jadeite/formats/BinaryFormat") }, accessFlags := 10, code := some k1c1 }
def k1c2 : Code := { maxStack := 2, maxLocals := 2, code := method_3_code, exceptionTable := #[], attributes := #[] }
def k1m2 : Method := { name := "expected", desc := "(II)Z", sig := { parameters := [.int, .int], returnType := some .boolean }, accessFlags := 10, code := some k1c2 }
def k1c3 : Code := { maxStack := 3, maxLocals := 7, code := code, exceptionTable := #[], attributes := #[] }
def k1m3 : Method := { name := "law", desc := "(II)Z", sig := { parameters := [.int, .int], returnType := some .boolean }, accessFlags := 9, code := some k1c3 }
/-- com/example/jadeite/jadeite/formats/BinaryFormatHoldsPinLaw -/
def k1 : Class := { plain "com/example/jadeite/jadeite/formats/BinaryFormatHoldsPinLaw" (some 0) with
  accessFlags := 49
  interfaces := #[]
  cf := some (fileOf pool1 27 #[] #[{ accessFlags := 2, nameIndex := 5, descriptorIndex := 6, attributes := #[] }, { accessFlags := 10, nameIndex := 30, descriptorIndex := 31, attributes := #[] }, { accessFlags := 10, nameIndex := 38, descriptorIndex := 39, attributes := #[] }, { accessFlags := 9, nameIndex := 43, descriptorIndex := 39, attributes := #[] }] 49 2 #[] #[])
  fields := #[]
  methods := #[k1m0, k1m1, k1m2, k1m3]
  instanceTypes := #[]
  staticTypes := #[]
  resolved := Array.replicate 46 none
  statics := none }

def pool2 : Array CpInfo := pool [(1, .class_ 2), (0, u "java/lang/constant/Constable"), (0, .class_ 4), (0, u "java/lang/Object")] 6

/-- java/lang/constant/Constable -/
def k2 : Class := { plain "java/lang/constant/Constable" (some 0) with
  accessFlags := 1537
  interfaces := #[]
  cf := some (fileOf pool2 1 #[] #[] 1537 3 #[] #[])
  fields := #[]
  methods := #[]
  instanceTypes := #[]
  staticTypes := #[]
  resolved := Array.replicate 11 none
  statics := none }

def pool3 : Array CpInfo := pool [(1, .class_ 2), (0, u "java/lang/Comparable"), (0, .class_ 4), (0, u "java/lang/Object")] 7

/-- java/lang/Comparable -/
def k3 : Class := { plain "java/lang/Comparable" (some 0) with
  accessFlags := 1537
  interfaces := #[]
  cf := some (fileOf pool3 1 #[] #[] 1537 3 #[] #[])
  fields := #[]
  methods := #[]
  instanceTypes := #[]
  staticTypes := #[]
  resolved := Array.replicate 12 none
  statics := none }

def pool4 : Array CpInfo := pool [(1, .class_ 2), (0, u "java/io/Serializable"), (0, .class_ 4), (0, u "java/lang/Object")] 2

/-- java/io/Serializable -/
def k4 : Class := { plain "java/io/Serializable" (some 0) with
  accessFlags := 1537
  interfaces := #[]
  cf := some (fileOf pool4 1 #[] #[] 1537 3 #[] #[])
  fields := #[]
  methods := #[]
  instanceTypes := #[]
  staticTypes := #[]
  resolved := Array.replicate 7 none
  statics := none }

def pool5 : Array CpInfo := pool [(2, .class_ 4), (1, u "java/lang/Enum"), (0, u "name"), (0, u "Ljava/lang/String;"), (2, u "ordinal"), (0, u "I"), (1, .class_ 14), (1, u "java/lang/Object"), (4, u "hash"), (86, .class_ 108), (1, u "java/lang/Enum$EnumDesc"), (2, .class_ 112), (0, u "java/lang/constant/Constable"), (0, .class_ 114), (0, u "java/lang/Comparable"), (0, .class_ 116), (0, u "java/io/Serializable")] 87

/-- java/lang/Enum -/
def k5 : Class := { plain "java/lang/Enum" (some 0) with
  accessFlags := 1057
  interfaces := #[2, 3, 4]
  cf := some (fileOf pool5 2 #[.nestMembers #[106]] #[] 1057 12 #[111, 113, 115] #[{ accessFlags := 18, nameIndex := 5, descriptorIndex := 6, attributes := #[] }, { accessFlags := 18, nameIndex := 9, descriptorIndex := 10, attributes := #[] }, { accessFlags := 2, nameIndex := 19, descriptorIndex := 10, attributes := #[] }])
  fields := #[{ name := "name", type := (.object "java/lang/String"), accessFlags := 18, slot := 0, constantValue := 0 }, { name := "ordinal", type := .int, accessFlags := 18, slot := 1, constantValue := 0 }, { name := "hash", type := .int, accessFlags := 2, slot := 2, constantValue := 0 }]
  methods := #[]
  instanceTypes := #[(.object "java/lang/String"), .int, .int]
  staticTypes := #[]
  resolved := Array.replicate 204 none
  statics := none }

def pool6 : Array CpInfo := pool [(1, .class_ 2), (0, u "com/example/jadeite/jadeite/formats/BinaryFormat"), (2, u "BASE64URL"), (0, u "Lcom/example/jadeite/jadeite/formats/BinaryFormat;"), (2, u "HEX"), (2, u "IPV4_ADDR"), (2, u "IPV6_ADDR"), (2, u "EUI"), (2, u "$VALUES"), (0, u "[Lcom/example/jadeite/jadeite/formats/BinaryFormat;"), (6, .class_ 31), (1, u "java/lang/Enum"), (8, u "keyword"), (0, u "Ljava/lang/String;"), (2, u "description"), (0, .fieldref 1 46), (0, .nameAndType 47 48), (0, u "lengths"), (0, u "[I"), (49, u "BASE64URL_ENCODER"), (0, u "Ljava/util/Base64$Encoder;"), (51, u "BASE64URL_DECODER"), (0, u "Ljava/util/Base64$Decoder;"), (105, u "holds"), (0, u "(I)Z")] 29

def k6c0 : Code := { maxStack := 2, maxLocals := 6, code := prog_18_method_8_code, exceptionTable := #[], attributes := #[] }
def k6m0 : Method := { name := "holds", desc := "(I)Z", sig := { parameters := [.int], returnType := some .boolean }, accessFlags := 1, code := some k6c0 }
/-- com/example/jadeite/jadeite/formats/BinaryFormat -/
def k6 : Class := { plain "com/example/jadeite/jadeite/formats/BinaryFormat" (some 5) with
  accessFlags := 16433
  interfaces := #[]
  cf := some (fileOf pool6 1 #[] #[{ accessFlags := 1, nameIndex := 258, descriptorIndex := 259, attributes := #[] }] 16433 29 #[] #[{ accessFlags := 16409, nameIndex := 5, descriptorIndex := 6, attributes := #[] }, { accessFlags := 16409, nameIndex := 9, descriptorIndex := 6, attributes := #[] }, { accessFlags := 16409, nameIndex := 12, descriptorIndex := 6, attributes := #[] }, { accessFlags := 16409, nameIndex := 15, descriptorIndex := 6, attributes := #[] }, { accessFlags := 16409, nameIndex := 18, descriptorIndex := 6, attributes := #[] }, { accessFlags := 26, nameIndex := 151, descriptorIndex := 152, attributes := #[] }, { accessFlags := 26, nameIndex := 98, descriptorIndex := 99, attributes := #[] }, { accessFlags := 18, nameIndex := 40, descriptorIndex := 41, attributes := #[] }, { accessFlags := 18, nameIndex := 44, descriptorIndex := 41, attributes := #[] }, { accessFlags := 18, nameIndex := 47, descriptorIndex := 48, attributes := #[] }, { accessFlags := 4122, nameIndex := 21, descriptorIndex := 22, attributes := #[] }])
  fields := #[{ name := "BASE64URL", type := (.object "com/example/jadeite/jadeite/formats/BinaryFormat"), accessFlags := 16409, slot := 0, constantValue := 0 }, { name := "HEX", type := (.object "com/example/jadeite/jadeite/formats/BinaryFormat"), accessFlags := 16409, slot := 1, constantValue := 0 }, { name := "IPV4_ADDR", type := (.object "com/example/jadeite/jadeite/formats/BinaryFormat"), accessFlags := 16409, slot := 2, constantValue := 0 }, { name := "IPV6_ADDR", type := (.object "com/example/jadeite/jadeite/formats/BinaryFormat"), accessFlags := 16409, slot := 3, constantValue := 0 }, { name := "EUI", type := (.object "com/example/jadeite/jadeite/formats/BinaryFormat"), accessFlags := 16409, slot := 4, constantValue := 0 }, { name := "BASE64URL_DECODER", type := (.object "java/util/Base64$Decoder"), accessFlags := 26, slot := 5, constantValue := 0 }, { name := "BASE64URL_ENCODER", type := (.object "java/util/Base64$Encoder"), accessFlags := 26, slot := 6, constantValue := 0 }, { name := "keyword", type := (.object "java/lang/String"), accessFlags := 18, slot := 3, constantValue := 0 }, { name := "description", type := (.object "java/lang/String"), accessFlags := 18, slot := 4, constantValue := 0 }, { name := "lengths", type := (.array .int), accessFlags := 18, slot := 5, constantValue := 0 }, { name := "$VALUES", type := (.array (.object "com/example/jadeite/jadeite/formats/BinaryFormat")), accessFlags := 4122, slot := 7, constantValue := 0 }]
  methods := #[k6m0]
  instanceTypes := #[(.object "java/lang/String"), .int, .int, (.object "java/lang/String"), (.object "java/lang/String"), (.array .int)]
  staticTypes := #[(.object "com/example/jadeite/jadeite/formats/BinaryFormat"), (.object "com/example/jadeite/jadeite/formats/BinaryFormat"), (.object "com/example/jadeite/jadeite/formats/BinaryFormat"), (.object "com/example/jadeite/jadeite/formats/BinaryFormat"), (.object "com/example/jadeite/jadeite/formats/BinaryFormat"), (.object "java/util/Base64$Decoder"), (.object "java/util/Base64$Encoder"), (.array (.object "com/example/jadeite/jadeite/formats/BinaryFormat"))]
  resolved := Array.replicate 289 none
  statics := some 0 }

def pool7 : Array CpInfo := pool [(1, u "java/lang/Cloneable"), (0, .class_ 1), (0, u "java/lang/Object"), (0, .class_ 3)] 3

/-- java/lang/Cloneable -/
def k7 : Class := { plain "java/lang/Cloneable" (some 0) with
  accessFlags := 1537
  interfaces := #[]
  cf := some (fileOf pool7 2 #[] #[] 1537 4 #[] #[])
  fields := #[]
  methods := #[]
  instanceTypes := #[]
  staticTypes := #[]
  resolved := Array.replicate 8 none
  statics := none }

/-- the primitive byte -/
def k8 : Class := { plain "byte" none with kind := .primitive 'B', accessFlags := 0x411 }
/-- [B -/
def k9 : Class := { plain "[B" (some 0) with kind := .array 8 .byte, interfaces := #[7, 4], accessFlags := 1041 }

/-- the primitive int -/
def k10 : Class := { plain "int" none with kind := .primitive 'I', accessFlags := 0x411 }
/-- [I -/
def k11 : Class := { plain "[I" (some 0) with kind := .array 10 .int, interfaces := #[7, 4], accessFlags := 1041 }

def heap : Heap := #[{ cls := 6, slots := #[.ref 5, .ref 5, .ref 6, .ref 7, .ref 8, .null, .null, .null], vm := .statics 6 },
  { cls := 11, slots := #[], vm := .none },
  { cls := 11, slots := #[.int 4], vm := .none },
  { cls := 11, slots := #[.int 16], vm := .none },
  { cls := 11, slots := #[.int 6, .int 8], vm := .none },
  { cls := 6, slots := #[.null, .int 0, .int 0, .null, .null, .ref 1], vm := .none },
  { cls := 6, slots := #[.null, .int 0, .int 0, .null, .null, .ref 2], vm := .none },
  { cls := 6, slots := #[.null, .int 0, .int 0, .null, .null, .ref 3], vm := .none },
  { cls := 6, slots := #[.null, .int 0, .int 0, .null, .null, .ref 4], vm := .none }]
def classes : Array Class := #[k0, k1, k2, k3, k4, k5, k6, k7, k8, k9, k10, k11]
def interned : List (Array UInt16 × Addr) := []
def slotsUsed : Nat := 36
def theMethod : MethodId := ⟨1, 3⟩
def args0 : Array Value := #[.int 5, .int 7]
def aboutOver (below : List Frame) : State where
  vm := { classes := classes, interned := interned.toArray }
  heap := heap
  slotsUsed := slotsUsed
  threads := #[{ frames := .invoking theMethod args0 :: below }]
def below0 : List Frame := [.native { method := ⟨0, 0⟩, args := #[] }]
def about1 : State := aboutOver below0
def p0 : Program := .bare "" "" ""
def e0 : Env := launch0.env 0 0 0
theorem w_frames : about1.frames = Frame.invoking theMethod args0 :: below0 := rfl
set_option maxRecDepth 65536 in
theorem w_args : argsFit about1.vm theMethod args0 = true := by decide +kernel
set_option maxRecDepth 65536 in
theorem w_heap : heapFits about1 = true := by decide +kernel
set_option maxRecDepth 65536 in
theorem w_runnable : about1.curStatus? = some .runnable := by decide +kernel
set_option maxRecDepth 65536 in
theorem w_alone : about1.alone = true := by decide +kernel
set_option maxRecDepth 65536 in
theorem w_named : about1.methodNamed? x = some theMethod := by decide +kernel
set_option maxRecDepth 65536 in
theorem w_hears : about1.hears theMethod below0 = true := by decide +kernel
set_option maxRecDepth 65536 in
theorem w_ripe : about1.ripe theMethod args0 below0 = true := by decide +kernel
theorem w_running : about1.status = .running := rfl
set_option maxRecDepth 65536 in
theorem w_room : about1.hasRoom e0.platform room_1 = true :=
  launch0.hasRoom_least _ room_1 (by decide +kernel) (by decide +kernel) (by decide +kernel) (by decide +kernel) (by decide +kernel) (by decide +kernel)
theorem allAtoms_all (ts : List Jvm.Cond) (a : Array Jvm.Value) (st : Jvm.State) : (allAtoms ts).before a st = ts.all (fun c => c.before a st) := by
  induction ts with
  | nil => rfl
  | cons c t ih =>
    show (Jvm.Cond.and c (allAtoms t)).before a st = _
    rw [Jvm.Cond.before_and, ih, List.all_cons]
def words1 : List Jvm.Cond := Jvm.Cond.code x code maxLocals ret :: tables_1
/-- a 'code' word, met by the world's own term for the bytes: nothing is compared byte by byte -/
theorem code_word {y : MethodName} {bytes : ByteArray} {mx : Nat} {rt : Option FieldType} {a : Array Value} {s : State} {m : MethodId} {meth : Method} {c : Code} (h1 : s.methodNamed? y = some m) (h2 : s.vm.method? m = some meth) (h3 : meth.code = some c) (h4 : c.code = bytes)
    (h5 : (c.maxLocals == mx && c.exceptionTable.isEmpty && decide (c.maxStack ≤ mostOperands) && decide (meth.sig.returnType = rt) && !meth.locks && decide (parseMethodDescriptor y.desc = some meth.sig)) = true) : (Jvm.Cond.code y bytes mx rt).before a s = true := by
  simp only [Bool.and_eq_true, beq_iff_eq, Bool.not_eq_true', decide_eq_true_eq] at h5
  obtain ⟨⟨⟨⟨⟨g1, g2⟩, g3⟩, g4⟩, g5⟩, g6⟩ := h5
  simp [Cond.before, Cond.holds, Cond.value, h1, h2, h3, h4, g1, g2, g3, g4, g5, g6]
def isCode : Jvm.Cond → Bool
  | .code _ _ _ _ => true
  | _ => false
theorem all_split {L : List Jvm.Cond} {P : Jvm.Cond → Bool} (h1 : L.all (fun c => isCode c || P c) = true) (h2 : ∀ c ∈ L.filter isCode, P c = true) : L.all P = true := by
  refine List.all_eq_true.mpr fun c hc => ?_
  have h := List.all_eq_true.mp h1 c hc
  rcases Bool.eq_false_or_eq_true (isCode c) with hi | hi
  · exact h2 c (List.mem_filter.mpr ⟨hc, hi⟩)
  · simpa [hi] using h
set_option maxRecDepth 65536 in
theorem w_c0 : (Jvm.Cond.code x code maxLocals ret).before args0 about1 = true := code_word (m := ⟨1, 3⟩) (meth := k1m3) (c := k1c3) (by decide +kernel) rfl rfl rfl (by decide +kernel)
set_option maxRecDepth 65536 in
theorem w_c1 : (Jvm.Cond.code ({ cls := "com/example/jadeite/jadeite/formats/BinaryFormatHoldsPinLaw", name := "pick", desc := "(I)Lcom/example/jadeite/jadeite/formats/BinaryFormat;" } : Jvm.MethodName) method_2_code (1 : Nat) (Option.some (Jvm.ClassFile.FieldType.object "com/example/jadeite/jadeite/formats/BinaryFormat"))).before args0 about1 = true := code_word (m := ⟨1, 1⟩) (meth := k1m1) (c := k1c1) (by decide +kernel) rfl rfl rfl (by decide +kernel)
set_option maxRecDepth 65536 in
theorem w_c2 : (Jvm.Cond.code ({ cls := "com/example/jadeite/jadeite/formats/BinaryFormat", name := "holds", desc := "(I)Z" } : Jvm.MethodName) prog_18_method_8_code (6 : Nat) (Option.some Jvm.ClassFile.FieldType.boolean)).before args0 about1 = true := code_word (m := ⟨6, 0⟩) (meth := k6m0) (c := k6c0) (by decide +kernel) rfl rfl rfl (by decide +kernel)
set_option maxRecDepth 65536 in
theorem w_c3 : (Jvm.Cond.code ({ cls := "com/example/jadeite/jadeite/formats/BinaryFormatHoldsPinLaw", name := "expected", desc := "(II)Z" } : Jvm.MethodName) method_3_code (2 : Nat) (Option.some Jvm.ClassFile.FieldType.boolean)).before args0 about1 = true := code_word (m := ⟨1, 2⟩) (meth := k1m2) (c := k1c2) (by decide +kernel) rfl rfl rfl (by decide +kernel)
def codes1 : List Jvm.Cond := [Jvm.Cond.code x code maxLocals ret, Jvm.Cond.code ({ cls := "com/example/jadeite/jadeite/formats/BinaryFormatHoldsPinLaw", name := "pick", desc := "(I)Lcom/example/jadeite/jadeite/formats/BinaryFormat;" } : Jvm.MethodName) method_2_code (1 : Nat) (Option.some (Jvm.ClassFile.FieldType.object "com/example/jadeite/jadeite/formats/BinaryFormat")), Jvm.Cond.code ({ cls := "com/example/jadeite/jadeite/formats/BinaryFormat", name := "holds", desc := "(I)Z" } : Jvm.MethodName) prog_18_method_8_code (6 : Nat) (Option.some Jvm.ClassFile.FieldType.boolean), Jvm.Cond.code ({ cls := "com/example/jadeite/jadeite/formats/BinaryFormatHoldsPinLaw", name := "expected", desc := "(II)Z" } : Jvm.MethodName) method_3_code (2 : Nat) (Option.some Jvm.ClassFile.FieldType.boolean)]
set_option maxRecDepth 65536 in
theorem codes_eq : words1.filter isCode = codes1 := rfl
theorem w_codes : ∀ c ∈ words1.filter isCode, c.before args0 about1 = true := by
  rw [codes_eq]
  intro c hc
  simp only [codes1, List.mem_cons, List.not_mem_nil, or_false] at hc
  rcases hc with rfl | rfl | rfl | rfl
  · exact w_c0
  · exact w_c1
  · exact w_c2
  · exact w_c3
set_option maxRecDepth 65536 in
theorem w_t1 : (words1.take 24).all (fun c => isCode c || c.before args0 about1) = true := by decide +kernel
set_option maxRecDepth 65536 in
theorem w_t2 : (words1.drop 24).all (fun c => isCode c || c.before args0 about1) = true := by decide +kernel
theorem w_tables : (allAtoms (Jvm.Cond.code x code maxLocals ret :: tables_1)).before args0 about1 = true := by
  rw [allAtoms_all]
  show words1.all (fun c => c.before args0 about1) = true
  refine all_split ?_ w_codes
  rw [← List.take_append_drop 24 words1, List.all_append, w_t1, w_t2]
  rfl
set_option maxRecDepth 65536 in
theorem w_case : (Jvm.Cond.and given_1 narrow_1).before args0 about1 = true := by decide +kernel
theorem w_applies : (headSpec (Jvm.Cond.code x code maxLocals ret :: tables_1) room_1).applies x e0.platform about1 = true :=
  (Spec.applies_iff w_frames).mpr ⟨w_running, w_runnable, w_alone, w_named, w_hears, w_ripe, w_room, w_tables⟩
theorem atStart : AtStart classFile x code maxLocals ret World_1 tables_1 room_1 Calls_1 rest_1 Pre_1 launch0 p0 e0 about1 theMethod args0 below0 :=
  ⟨lists_1, trivial, launch0.admits_env _ _ _, launch0.least_env, fairChoices_fair.cas, fairChoices_fair.clock, w_frames, w_args, w_heap, w_applies, trivial, trivial, w_case⟩
end start1
theorem witness_1 : WitnessClaimed_1 := ⟨start1.p0, start1.e0, start1.about1, start1.theMethod, start1.args0, start1.below0, start1.atStart⟩
end Jvm.Pilot.@@N@@
