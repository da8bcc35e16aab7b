import JvmDerived
import JvmDerived.Pilot.@@N@@Statement
import JvmDerived.Pilot.@@N@@Code
set_option linter.unusedVariables false
set_option linter.unusedSimpArgs false
namespace Jvm.Pilot.@@N@@
open Jvm Jvm.ClassFile Sem Op Lib Jvm.Free Jvm.Stand Jvm.LawKit Jvm.RoadKit Bundle Jvm.Pilot.@@N@@.Jvm.D
section OwnKit
variable {p : Program} {l : Launch} {e : Env} {R : Room} {s : State} {m : MethodId} {args : Array Value} {below : List Frame} {meth : Method} {c : Code} {T : State} {locs : List Loc} {cells slots : Nat} {Z : State} {a0 : Array Value} {h h' h0 : Heap}
/-- the rest of the body's run, from A on: it ends, and E holds there -/
def own_Go (p : Program) (e : Env) (below : List Frame) (E : Outcome → State → Prop) (A : State) : Prop :=
  ∃ s₂ o, Steps p.tables e below A s₂ ∧ s₂.status = .running ∧ Ended s₂ below o ∧ E o s₂
theorem own_go {E : Outcome → State → Prop} {A B : State} (k : ∀ t, Steps p.tables e below A t → Steps p.tables e below B t) (g : own_Go p e below E A) : own_Go p e below E B := by
  obtain ⟨s₂, o, h1, h2⟩ := g
  exact ⟨s₂, o, k _ h1, h2⟩
theorem own_goT {E : Outcome → State → Prop} {A B : State} (k : Steps p.tables e below B A) (g : own_Go p e below E A) : own_Go p e below E B := own_go (fun _ q => k.trans q) g
/-- what a body leaves -/
def own_Out (s : State) (Q : Option Value → Heap → List Loc → Prop) (C S : Nat) (o : Outcome) (U : State) : Prop :=
  ∃ v L, o = .returned v ∧ Q v U.heap L ∧ FrameEnd s o U L C S
/-- a body's contract: called with as' over the heap h0 it returns, and Q holds of what it returns, of the heap that it leaves and of the places that it wrote -/
def own_Con (l : Launch) (Z : State) (y : MethodName) (bytes : ByteArray) (maxL : Nat) (ret : Option FieldType) (rm : Room) (as' : Array Value) (h0 : Heap) (Q : Option Value → Heap → List Loc → Prop) (ws : List Jvm.Cond) : Prop :=
  MetFree l y (head1 (Jvm.Cond.code y bytes maxL ret :: ws) rm) (fun a U => a = as' ∧ Z.Warmed39 U.vm ∧ U.heap = h0) (fun _ _ _ _ _ => True) (fun _ U o U' => ∃ v L, o = .returned v ∧ Q v U'.heap L ∧ FrameEnd U o U' L rm.cells rm.slots)
theorem own_con {y : MethodName} {bytes : ByteArray} {maxL : Nat} {ret : Option FieldType} {rm : Room} {as' : Array Value} {Q : Option Value → Heap → List Loc → Prop} {ws : List Jvm.Cond} {F : MethodId → JFrame} (hpn : plainFor y = true) (hef : ∀ m, entryFrame m as' maxL = F m)
    (H : ∀ (p : Program) (e : Env) (s : State) (m : MethodId) (below : List Frame) (meth : Method) (c : Code) (T : State), Stand p l e rm s m as' below meth c T [] 0 0 → p.tables.exec = Jvm.exec → c.code = bytes → c.maxLocals = maxL → Z.Warmed39 s.vm → s.vm.findClass y.cls = some m.cls → meth.name = y.name →
      meth.sig.returnType = ret → meth.locks = false → T.heap = h0 → own_Go p e below (own_Out s Q rm.cells rm.slots) (T.setTop (F m))) :
    own_Con l Z y bytes maxL ret rm as' h0 Q ws := by
  refine MetFree.of_bodySF hpn hisR ?_
  intro p e s m args below meth c s₁ Bd hml0 hP hK
  obtain ⟨rfl, hZ, hh⟩ := hP
  have k := H p e s m below meth c s₁ (Stand.of_body Bd) Bd.exec Bd.bytes hml0 hZ (findClass_of_methodNamed Bd.named) (name_of_methodNamed Bd.named Bd.method).1 Bd.returns Bd.notSynchronized (by rw [← hh, Bd.state]; rfl)
  rw [← hef m] at k
  exact k
theorem own_Con.mono {y : MethodName} {bytes : ByteArray} {maxL : Nat} {ret : Option FieldType} {rm : Room} {as' : Array Value} {Q Q' : Option Value → Heap → List Loc → Prop} {ws : List Jvm.Cond} (H : own_Con l Z y bytes maxL ret rm as' h0 Q ws) (k : ∀ v h L, Q v h L → Q' v h L) : own_Con l Z y bytes maxL ret rm as' h0 Q' ws := by
  intro p e ha hc hk s m args below hf happ hP hK
  obtain ⟨n, o, g1, g2, g3, v, L, g4, g5, g6⟩ := H p e ha hc hk s m args below hf happ hP hK
  exact ⟨n, o, g1, g2, g3, v, L, g4, k _ _ _ g5, g6⟩
/-! leaving -/
theorem own_iret (X : Stand p l e R s m args below meth c T locs cells slots) (hx : p.tables.exec = Jvm.exec) (hlk : meth.locks = false) {t : FieldType} (hret : meth.sig.returnType = some t) (hti : t = .int ∨ t = .boolean ∨ t = .byte ∨ t = .char ∨ t = .short) {pc : Nat} {Ls : Array Slot} {z : Int32} (hn : narrow t (.int z) = .int z)
    (hd : decode c.code pc = .ok (.ireturn, 1)) {Q : Option Value → Heap → List Loc → Prop} {C S : Nat} (hC : cells ≤ C) (hS : slots ≤ S) (hq : Q (some (.int z)) T.heap locs) : own_Go p e below (own_Out s Q C S) (T.setTop (mkF m pc Ls [.int z])) := by
  obtain ⟨fs, hr, hrun, hended, hW, hsame⟩ := X.leave (v := some (.int z)) (fun h => by rw [hret] at h; cases h)
  exact ⟨_, _, X.ireturnOut hx hret hn hti hd hr, hrun, hended, _, _, rfl, hq, ⟨_, rfl⟩, hW, hsame.mono hC hS⟩
theorem own_lret (X : Stand p l e R s m args below meth c T locs cells slots) (hx : p.tables.exec = Jvm.exec) (hlk : meth.locks = false) (hret : meth.sig.returnType = some .long) {pc : Nat} {Ls : Array Slot} {z : Int64}
    (hd : decode c.code pc = .ok (.lreturn, 1)) {Q : Option Value → Heap → List Loc → Prop} {C S : Nat} (hC : cells ≤ C) (hS : slots ≤ S) (hq : Q (some (.long z)) T.heap locs) : own_Go p e below (own_Out s Q C S) (T.setTop (mkF m pc Ls [.long z])) := by
  obtain ⟨fs, hr, hrun, hended, hW, hsame⟩ := X.leave (v := some (.long z)) (fun h => by rw [hret] at h; cases h)
  exact ⟨_, _, X.lreturnOut hx hret hd hr, hrun, hended, _, _, rfl, hq, ⟨_, rfl⟩, hW, hsame.mono hC hS⟩
theorem own_aret (X : Stand p l e R s m args below meth c T locs cells slots) (hx : p.tables.exec = Jvm.exec) (hlk : meth.locks = false) {t : FieldType} (hret : meth.sig.returnType = some t) (ht : t.isReference = true) {pc : Nat} {Ls : Array Slot} {w : Value} (hw : w.isRef = true)
    (hd : decode c.code pc = .ok (.areturn, 1)) {Q : Option Value → Heap → List Loc → Prop} {C S : Nat} (hC : cells ≤ C) (hS : slots ≤ S) (hq : Q (some w) T.heap locs) : own_Go p e below (own_Out s Q C S) (T.setTop (mkF m pc Ls [w])) := by
  obtain ⟨fs, hr, hrun, hended, hW, hsame⟩ := X.leave (v := some w) (fun h => by rw [hret] at h; cases h)
  exact ⟨_, _, X.areturnOut hx hw hret ht hd hr, hrun, hended, _, _, rfl, hq, ⟨_, rfl⟩, hW, hsame.mono hC hS⟩
theorem own_vret (X : Stand p l e R s m args below meth c T locs cells slots) (hx : p.tables.exec = Jvm.exec) (hlk : meth.locks = false) (hret : meth.sig.returnType = none) {pc : Nat} {Ls : Array Slot}
    (hd : decode c.code pc = .ok (.return_, 1)) {Q : Option Value → Heap → List Loc → Prop} {C S : Nat} (hC : cells ≤ C) (hS : slots ≤ S) (hq : Q none T.heap locs) : own_Go p e below (own_Out s Q C S) (T.setTop (mkF m pc Ls [])) := by
  obtain ⟨fs, hr, hrun, hended, hW, hsame⟩ := X.leave (v := none) (fun _ => rfl)
  exact ⟨_, _, X.returnOut hx hret hd hr, hrun, hended, _, _, rfl, hq, ⟨_, rfl⟩, hW, hsame.mono hC hS⟩
/-! a body that leaves the heap alone -/
def own_PQ (h0 : Heap) (w : Value) (v : Option Value) (h : Heap) (L : List Loc) : Prop := v = some w ∧ h = h0 ∧ L = []
theorem own_iteI {C : Prop} [Decidable C] {a b : Int32} {k n : Nat} {A : State} (h1 : C → own_Go p e below (own_Out s (own_PQ h0 (.int a)) k n) A) (h2 : ¬ C → own_Go p e below (own_Out s (own_PQ h0 (.int b)) k n) A) : own_Go p e below (own_Out s (own_PQ h0 (.int (if C then a else b))) k n) A := by
  by_cases q : C
  · rw [if_pos q]; exact h1 q
  · rw [if_neg q]; exact h2 q
theorem own_iteL {C : Prop} [Decidable C] {a b : Int64} {k n : Nat} {A : State} (h1 : C → own_Go p e below (own_Out s (own_PQ h0 (.long a)) k n) A) (h2 : ¬ C → own_Go p e below (own_Out s (own_PQ h0 (.long b)) k n) A) : own_Go p e below (own_Out s (own_PQ h0 (.long (if C then a else b))) k n) A := by
  by_cases q : C
  · rw [if_pos q]; exact h1 q
  · rw [if_neg q]; exact h2 q
/-! calls -/
theorem own_callS (X : Stand p l e R s m args below meth c T locs cells slots) (hx : p.tables.exec = Jvm.exec) (hZ : Z.Warmed39 s.vm) {own : String} (hown : s.vm.findClass own = some m.cls) {index : Nat} {y : MethodName} {bytes : ByteArray} {maxL : Nat} {ret : Option FieldType} {rm : Room} {argsL rest : List Value} {Q : Option Value → Heap → List Loc → Prop}
    (hM : own_Con l Z y bytes maxL ret rm argsL.toArray h Q []) (eT : T.heap = h) (wl : (Jvm.Cond.methodLink own index y).before a0 Z = true) (wst : (Jvm.Cond.static y).before a0 Z = true) (wz : (Jvm.Cond.initialized y.cls).before a0 Z = true) (wc : (Jvm.Cond.code y bytes maxL ret).before a0 Z = true) (hy : y.cls ≠ "java/lang/invoke/MethodHandle" ∧ y.cls ≠ "java/lang/invoke/VarHandle")
    {sig : MethodDescriptor} (hpd : parseMethodDescriptor y.desc = some sig) (hlen : argsL.length = sig.parameters.length) {g : JFrame} (hg : g.method = m) (hsize : g.locals.size = c.maxLocals) (hstack : g.stack = argsL.reverse ++ rest) (W : Nat) (hW : 2 * g.monitorRoom + (rest.map fun v => v.category).sum ≤ W) (hdg : decode c.code g.pc = .ok (.invokestatic index, 3))
    (hf : rm.frames + 1 ≤ R.frames) (hl : W + (maxL + 11) + rm.locals ≤ R.locals) (hcs : cells + rm.cells ≤ R.cells) (hss : slots + rm.slots ≤ R.slots) :
    ∃ (v : Option Value) (T' : State) (L : List Loc), Stand p l e R s m args below meth c T' (locs ++ L) (cells + rm.cells) (slots + rm.slots) ∧ Q v T'.heap L ∧ ∀ t, Steps p.tables e below (T'.setTop { g with pc := g.pc + 3, stack := v.toList ++ rest }) t → Steps p.tables e below (T.setTop g) t := by
  obtain ⟨v, _, ⟨T', L', k', n'⟩, -, X', ⟨L, hQ, q1, q2, q3⟩, st⟩ := Jvm.LawKit.callS X hx hown (mvT hZ wl) (mvT hZ wst) (mvT hZ wz) (mvT hZ wc) hy (backOf (W := W) hM hZ wc wz hf hl) hg hsize (argsL := argsL) (rest := rest) (fun sg hsg => by rw [hpd] at hsg; cases hsg; exact hlen) hstack hW hdg (fun _ _ => ⟨rfl, eT, hcs, hss⟩)
  dsimp only [Pt.U, Pt.locs, Pt.cells, Pt.slots] at X' q1 q2 q3 st hQ
  subst q1 q2 q3
  exact ⟨v, T', L, X', hQ, st⟩
theorem own_callSP (X : Stand p l e R s m args below meth c T locs cells slots) (hx : p.tables.exec = Jvm.exec) (hZ : Z.Warmed39 s.vm) {own : String} (hown : s.vm.findClass own = some m.cls) {index : Nat} {y : MethodName} {bytes : ByteArray} {maxL : Nat} {ret : Option FieldType} {rm : Room} {argsL rest : List Value} {w : Value}
    (hM : own_Con l Z y bytes maxL ret rm argsL.toArray h (own_PQ h w) []) (eT : T.heap = h) (wl : (Jvm.Cond.methodLink own index y).before a0 Z = true) (wst : (Jvm.Cond.static y).before a0 Z = true) (wz : (Jvm.Cond.initialized y.cls).before a0 Z = true) (wc : (Jvm.Cond.code y bytes maxL ret).before a0 Z = true) (hy : y.cls ≠ "java/lang/invoke/MethodHandle" ∧ y.cls ≠ "java/lang/invoke/VarHandle")
    {sig : MethodDescriptor} (hpd : parseMethodDescriptor y.desc = some sig) (hlen : argsL.length = sig.parameters.length) {g : JFrame} (hg : g.method = m) (hsize : g.locals.size = c.maxLocals) (hstack : g.stack = argsL.reverse ++ rest) (W : Nat) (hW : 2 * g.monitorRoom + (rest.map fun v => v.category).sum ≤ W) (hdg : decode c.code g.pc = .ok (.invokestatic index, 3))
    (hf : rm.frames + 1 ≤ R.frames) (hl : W + (maxL + 11) + rm.locals ≤ R.locals) (hrc : rm.cells = 0) (hrs : rm.slots = 0) (hcs : cells ≤ R.cells) (hss : slots ≤ R.slots) :
    ∃ (T' : State), Stand p l e R s m args below meth c T' locs cells slots ∧ T'.heap = h ∧ ∀ t, Steps p.tables e below (T'.setTop { g with pc := g.pc + 3, stack := w :: rest }) t → Steps p.tables e below (T.setTop g) t := by
  obtain ⟨v, T', L, X', ⟨rfl, q2, rfl⟩, st⟩ := own_callS X hx hZ hown hM eT wl wst wz wc hy hpd hlen hg hsize hstack W hW hdg hf hl (by omega) (by omega)
  rw [List.append_nil, hrc, hrs] at X'
  exact ⟨T', X', q2, st⟩
theorem own_callI (X : Stand p l e R s m args below meth c T locs cells slots) (hx : p.tables.exec = Jvm.exec) (hZ : Z.Warmed39 s.vm) {own : String} (hown : s.vm.findClass own = some m.cls) {index : Nat} {y : MethodName} (hy1 : y.name = "<init>") {bytes : ByteArray} {maxL : Nat} {rm : Room} {b : Addr} {argsL rest : List Value} {Q : Option Value → Heap → List Loc → Prop}
    (hM : own_Con l Z y bytes maxL none rm (Value.ref b :: argsL).toArray h Q []) (eT : T.heap = h) (wl : (Jvm.Cond.methodLink own index y).before a0 Z = true) (wi : (Jvm.Cond.instanceMethod y).before a0 Z = true) (wz : (Jvm.Cond.initialized y.cls).before a0 Z = true) (wc : (Jvm.Cond.code y bytes maxL none).before a0 Z = true) (hy : y.cls ≠ "java/lang/invoke/MethodHandle" ∧ y.cls ≠ "java/lang/invoke/VarHandle")
    {sig : MethodDescriptor} (hpd : parseMethodDescriptor y.desc = some sig) (hlen : argsL.length = sig.parameters.length) {g : JFrame} (hg : g.method = m) (hsize : g.locals.size = c.maxLocals) (hstack : g.stack = argsL.reverse ++ .ref b :: rest) (W : Nat) (hW : 2 * g.monitorRoom + (rest.map fun v => v.category).sum ≤ W) (hdg : decode c.code g.pc = .ok (.invokespecial index, 3))
    (hf : rm.frames + 1 ≤ R.frames) (hl : W + (maxL + 11) + rm.locals ≤ R.locals) (hcs : cells + rm.cells ≤ R.cells) (hss : slots + rm.slots ≤ R.slots) :
    ∃ (v : Option Value) (T' : State) (L : List Loc), Stand p l e R s m args below meth c T' (locs ++ L) (cells + rm.cells) (slots + rm.slots) ∧ Q v T'.heap L ∧ ∀ t, Steps p.tables e below (T'.setTop { g with pc := g.pc + 3, stack := v.toList ++ rest }) t → Steps p.tables e below (T.setTop g) t := by
  obtain ⟨v, _, ⟨T', L', k', n'⟩, -, X', ⟨L, hQ, q1, q2, q3⟩, st⟩ := X.specialBack hx hy1 hown (mvT hZ wl) (mvT hZ wi) (mvT hZ wc) hy (backOf (W := W) hM hZ wc wz hf hl) hg hsize (Steps.refl _) (a := b) (argsL := argsL) (rest := rest) (fun sg hsg => by rw [hpd] at hsg; cases hsg; exact hlen) hstack hW hdg (fun _ _ => ⟨rfl, eT, hcs, hss⟩)
  dsimp only [Pt.U, Pt.locs, Pt.cells, Pt.slots] at X' q1 q2 q3 st hQ
  subst q1 q2 q3
  exact ⟨v, T', L, X', hQ, fun _ k => st.trans k⟩
theorem own_callV (X : Stand p l e R s m args below meth c T locs cells slots) (hx : p.tables.exec = Jvm.exec) (hZ : Z.Warmed39 s.vm) {own C : String} (hown : s.vm.findClass own = some m.cls) {index : Nat} {y z : MethodName} {bytes : ByteArray} {maxL : Nat} {ret : Option FieldType} {rm : Room} {b : Addr} {argsL rest : List Value} {Q : Option Value → Heap → List Loc → Prop}
    (hM : own_Con l Z z bytes maxL ret rm (Value.ref b :: argsL).toArray h Q []) (eT : T.heap = h) (hE : Exa Z h b C) (wl : (Jvm.Cond.methodLink own index y).before a0 Z = true) (wd : (Jvm.Cond.declares y).before a0 Z = true) (wsel : (Jvm.Cond.selects C y z).before a0 Z = true) (wi : (Jvm.Cond.instanceMethod z).before a0 Z = true) (wz : (Jvm.Cond.initialized z.cls).before a0 Z = true) (wc : (Jvm.Cond.code z bytes maxL ret).before a0 Z = true) (hnf : NotFace s y) (hy : y.cls ≠ "java/lang/invoke/MethodHandle" ∧ y.cls ≠ "java/lang/invoke/VarHandle")
    {sig : MethodDescriptor} (hpd : parseMethodDescriptor y.desc = some sig) (hlen : argsL.length = sig.parameters.length) {g : JFrame} (hg : g.method = m) (hsize : g.locals.size = c.maxLocals) (hstack : g.stack = argsL.reverse ++ .ref b :: rest) (W : Nat) (hW : 2 * g.monitorRoom + (rest.map fun v => v.category).sum ≤ W) (hdg : decode c.code g.pc = .ok (.invokevirtual index, 3))
    (hf : rm.frames + 1 ≤ R.frames) (hl : W + (maxL + 11) + rm.locals ≤ R.locals) (hcs : cells + rm.cells ≤ R.cells) (hss : slots + rm.slots ≤ R.slots) :
    ∃ (v : Option Value) (T' : State) (L : List Loc), Stand p l e R s m args below meth c T' (locs ++ L) (cells + rm.cells) (slots + rm.slots) ∧ Q v T'.heap L ∧ ∀ t, Steps p.tables e below (T'.setTop { g with pc := g.pc + 3, stack := v.toList ++ rest }) t → Steps p.tables e below (T.setTop g) t := by
  obtain ⟨cq, kq, qa, qb, qc⟩ := isOf hZ eT hE
  obtain ⟨v, _, ⟨T', L', k', n'⟩, -, X', ⟨L, hQ, q1, q2, q3⟩, st⟩ := X.virtualBack hx hown (mvT hZ wl) (mvT hZ wd) hnf (mvT hZ wsel) (mvT hZ wi) hy (backOf (W := W) hM hZ wc wz hf hl) qa qc hg hsize (Steps.refl _) (argsL := argsL) (rest := rest) (fun sg hsg => by rw [hpd] at hsg; cases hsg; exact hlen) hstack hW hdg (fun _ _ => ⟨rfl, eT, hcs, hss⟩)
  dsimp only [Pt.U, Pt.locs, Pt.cells, Pt.slots] at X' q1 q2 q3 st hQ
  subst q1 q2 q3
  exact ⟨v, T', L, X', hQ, fun _ k => st.trans k⟩
theorem own_callP (X : Stand p l e R s m args below meth c T locs cells slots) (hx : p.tables.exec = Jvm.exec) (hZ : Z.Warmed39 s.vm) {own C : String} (hown : s.vm.findClass own = some m.cls) {index kk : Nat} {y : MethodName} {bytes : ByteArray} {maxL : Nat} {ret : Option FieldType} {rm : Room} {b : Addr} {argsL rest : List Value} {Q : Option Value → Heap → List Loc → Prop}
    (hM : own_Con l Z y bytes maxL ret rm (Value.ref b :: argsL).toArray h Q []) (eT : T.heap = h) (hE : Exa Z h b C) (wl : (Jvm.Cond.methodLink own index y).before a0 Z = true) (wi : (Jvm.Cond.instanceMethod y).before a0 Z = true) (wp : (Jvm.Cond.privateMethod y).before a0 Z = true) (wn : (Jvm.Cond.instantiable y.cls kk).before a0 Z = true) (wz : (Jvm.Cond.initialized y.cls).before a0 Z = true) (wc : (Jvm.Cond.code y bytes maxL ret).before a0 Z = true) (hy : y.cls ≠ "java/lang/invoke/MethodHandle" ∧ y.cls ≠ "java/lang/invoke/VarHandle")
    {sig : MethodDescriptor} (hpd : parseMethodDescriptor y.desc = some sig) (hlen : argsL.length = sig.parameters.length) {g : JFrame} (hg : g.method = m) (hsize : g.locals.size = c.maxLocals) (hstack : g.stack = argsL.reverse ++ .ref b :: rest) (W : Nat) (hW : 2 * g.monitorRoom + (rest.map fun v => v.category).sum ≤ W) (hdg : decode c.code g.pc = .ok (.invokevirtual index, 3))
    (hf : rm.frames + 1 ≤ R.frames) (hl : W + (maxL + 11) + rm.locals ≤ R.locals) (hcs : cells + rm.cells ≤ R.cells) (hss : slots + rm.slots ≤ R.slots) :
    ∃ (v : Option Value) (T' : State) (L : List Loc), Stand p l e R s m args below meth c T' (locs ++ L) (cells + rm.cells) (slots + rm.slots) ∧ Q v T'.heap L ∧ ∀ t, Steps p.tables e below (T'.setTop { g with pc := g.pc + 3, stack := v.toList ++ rest }) t → Steps p.tables e below (T.setTop g) t := by
  obtain ⟨cq, q, q'⟩ := hE.cell
  have hp := Cond.privateMethod_at (mvP hZ wp (args := #[]))
  have hn : (Jvm.Cond.instantiable y.cls kk).before args s = true := mvT hZ wn
  obtain ⟨c2, k2, i1, i2, i3, i4, -⟩ := Cond.instantiable_spec hn
  have hsel : (Jvm.Cond.selects y.cls y y).before args s = true := selects_self_of_private i1 i2 (Bool.or_eq_false_iff.mp i4).1 hp (mvT hZ wi) hy
  obtain ⟨v, _, ⟨T', L', k', n'⟩, -, X', ⟨L, hQ, q1, q2, q3⟩, st⟩ := X.privateBack hx hown (mvT hZ wl) (mvT hZ wi) hsel hp (mvT hZ wc) hy (backOf (W := W) hM hZ wc wz hf hl) hg hsize (Steps.refl _) (a := b) (by rw [eT]; exact q) q' (argsL := argsL) (rest := rest) (fun sg hsg => by rw [hpd] at hsg; cases hsg; exact hlen) hstack hW hdg (fun _ _ => ⟨rfl, eT, hcs, hss⟩)
  dsimp only [Pt.U, Pt.locs, Pt.cells, Pt.slots] at X' q1 q2 q3 st hQ
  subst q1 q2 q3
  exact ⟨v, T', L, X', hQ, fun _ k => st.trans k⟩
theorem own_pn {y : MethodName} (hq : plainName y.cls = true) : plainFor y = true := plainFor_of_name hq
end OwnKit
section OwnArr
variable {p : Program} {l : Launch} {e : Env} {R : Room} {s : State} {m : MethodId} {args : Array Value} {below : List Frame} {meth : Method} {c : Code} {T : State} {locs : List Loc} {cells slots : Nat} {Z : State} {a0 : Array Value} {h h' h0 : Heap} {a b : Addr} {ty : FieldType} {vs : List Value} {v : Value} {i sl : Nat} {ws : List Addr}
/-- an array of ty's at a, its components vs -/
def own_AV (Z : State) (h : Heap) (a : Addr) (ty : FieldType) (vs : List Value) : Prop := ∃ c : Cell, Arr Z h a c ty ∧ c.slots.toList = vs ∧ vs.length < 2147483648 ∧ ∀ v ∈ vs, fits ty v = true
theorem own_AV.lt (A : own_AV Z h a ty vs) : a < h.size := by obtain ⟨c, q, -⟩ := A; exact q.lt
theorem own_AV.short (A : own_AV Z h a ty vs) : vs.length < 2147483648 := by obtain ⟨c, -, -, q, -⟩ := A; exact q
theorem own_AV.ext (A : own_AV Z h a ty vs) (E : Ext h h') : own_AV Z h' a ty vs := by obtain ⟨c, q, r⟩ := A; exact ⟨c, q.ext E, r⟩
theorem own_AV.other (A : own_AV Z h b ty vs) (W : Wr h h' a sl v) (q : b ≠ a) : own_AV Z h' b ty vs := by obtain ⟨c, k, r⟩ := A; exact ⟨c, k.other W q, r⟩
theorem own_AV.keep (A : own_AV Z h a ty vs) (K : Keep h h' ws) (q : a ∉ ws) : own_AV Z h' a ty vs := by obtain ⟨c, k, r⟩ := A; exact ⟨c, ⟨K.2.1 a c k.1 q, k.2⟩, r⟩
theorem own_AV.set (A : own_AV Z h a ty vs) (W : Wr h h' a i v) (hv : fits ty v = true) : own_AV Z h' a ty (vs.set i v) := by
  obtain ⟨c, k, r, z, f⟩ := A
  refine ⟨c.setSlot i v, k.same W, ?_, by rw [List.length_set]; exact z, fun u hu => ?_⟩
  · show (c.slots.setIfInBounds i v).toList = _
    rw [Array.toList_setIfInBounds, r]
  · rcases List.mem_or_eq_of_mem_set hu with q | q
    · exact f u q
    · rw [q]; exact hv
theorem own_idx {j : Int32} {i : Nat} (hj : j.toInt = i) : ¬ j < 0 ∧ j.toNatClampNeg = i := by
  refine ⟨?_, ?_⟩
  · rw [Int32.lt_iff_toInt_lt, hj]; show ¬ (i : Int) < 0; omega
  · simp only [Int32.toNatClampNeg, hj]; rfl
theorem own_AV_new {cA : ClassId} {n : Int32} {k : Nat} (A : Arr Z h a (newA cA ty n) ty) (hn : n.toInt = k) : own_AV Z h a ty (List.replicate k (defaultValue ty)) := by
  obtain ⟨q1, q2⟩ := own_idx hn
  refine ⟨_, A, ?_, ?_, fun v hv => ?_⟩
  · show (Array.replicate n.toNatClampNeg _).toList = _
    rw [q2, Array.toList_replicate]
  · rw [List.length_replicate]
    have := n.toInt_lt
    omega
  · rw [(List.mem_replicate.mp hv).2]; cases ty <;> rfl
theorem own_newA (X : Stand p l e R s m args below meth c T locs cells slots) (hx : p.tables.exec = Jvm.exec) (hZ : Z.Warmed39 s.vm) {aty : ArrayType} (w : (Jvm.Cond.arrayClass (newarray.typeOf aty)).before a0 Z = true) (eT : T.heap = h) {g : JFrame} (hg : g.method = m) (hd : decode c.code g.pc = .ok (.newarray aty, 2)) {n : Int32} {rest : List Value} (hs : g.stack = .int n :: rest)
    (k cap : Nat) (hn : n.toInt = k) (hk : k ≤ cap) (hb : cap * 8 ≤ 536870912) (hc : cells + 1 ≤ R.cells) (hl : slots + cap ≤ R.slots) :
    ∃ T' h', Stand p l e R s m args below meth c T' locs (cells + 1) (slots + cap) ∧ T'.heap = h' ∧ Ext h h' ∧ own_AV Z h' h.size (newarray.typeOf aty) (List.replicate k (defaultValue (newarray.typeOf aty))) ∧ ∀ t, Steps p.tables e below (T'.setTop { g with pc := g.pc + 2, stack := .ref h.size :: rest }) t → Steps p.tables e below (T.setTop g) t := by
  obtain ⟨q1, q2⟩ := own_idx hn
  obtain ⟨T', h', cA, X', e', E, A, st⟩ := newP X hx hZ w eT hg hd hs q1 (cap := cap) (by rw [q2]; exact hk) hb hc hl
  exact ⟨T', h', X', e', E, own_AV_new A hn, st⟩
theorem own_stI (X : Stand p l e R s m args below meth c T locs cells slots) (hx : p.tables.exec = Jvm.exec) (hZ : Z.Warmed39 s.vm) (eT : T.heap = h) (A : own_AV Z h a .int vs) {j x : Int32} {g : JFrame} (hg : g.method = m) {rest : List Value} (hs : g.stack = .int x :: .int j :: .ref a :: rest) (hd : decode c.code g.pc = .ok (.iastore, 1)) (i : Nat) (hj : j.toInt = i) (hi : i < vs.length) :
    ∃ T' h', Stand p l e R s m args below meth c T' (locs ++ [⟨a, i⟩]) cells slots ∧ T'.heap = h' ∧ Wr h h' a i (.int x) ∧ own_AV Z h' a .int (vs.set i (.int x)) ∧ ∀ t, Steps p.tables e below (T'.setTop { g with pc := g.pc + 1, stack := rest }) t → Steps p.tables e below (T.setTop g) t := by
  obtain ⟨q1, q2⟩ := own_idx hj
  have A' := A
  obtain ⟨cl, k, r, -, -⟩ := A
  have hz : cl.slots.size = vs.length := by rw [← r]; simp
  obtain ⟨T', h', X', e', W, st⟩ := stI X hx hZ eT k (j := j) (x := x) (by rw [q2, hz]; exact fun u => u.elim q1 (fun z => by omega)) hg hs hd
  rw [q2] at X' W
  exact ⟨T', h', X', e', W, A'.set W rfl, st⟩
theorem own_stJ (X : Stand p l e R s m args below meth c T locs cells slots) (hx : p.tables.exec = Jvm.exec) (hZ : Z.Warmed39 s.vm) (eT : T.heap = h) (A : own_AV Z h a .long vs) {j : Int32} {x : Int64} {g : JFrame} (hg : g.method = m) {rest : List Value} (hs : g.stack = .long x :: .int j :: .ref a :: rest) (hd : decode c.code g.pc = .ok (.lastore, 1)) (i : Nat) (hj : j.toInt = i) (hi : i < vs.length) :
    ∃ T' h', Stand p l e R s m args below meth c T' (locs ++ [⟨a, i⟩]) cells slots ∧ T'.heap = h' ∧ Wr h h' a i (.long x) ∧ own_AV Z h' a .long (vs.set i (.long x)) ∧ ∀ t, Steps p.tables e below (T'.setTop { g with pc := g.pc + 1, stack := rest }) t → Steps p.tables e below (T.setTop g) t := by
  obtain ⟨q1, q2⟩ := own_idx hj
  have A' := A
  obtain ⟨cl, k, r, -, -⟩ := A
  have hz : cl.slots.size = vs.length := by rw [← r]; simp
  obtain ⟨T', h', X', e', W, st⟩ := stJ X hx hZ eT k (j := j) (x := x) (by rw [q2, hz]; exact fun u => u.elim q1 (fun z => by omega)) hg hs hd
  rw [q2] at X' W
  exact ⟨T', h', X', e', W, A'.set W rfl, st⟩
theorem own_ldI (X : Stand p l e R s m args below meth c T locs cells slots) (hx : p.tables.exec = Jvm.exec) (hZ : Z.Warmed39 s.vm) (eT : T.heap = h) (A : own_AV Z h a .int vs) {j : Int32} {g : JFrame} (hg : g.method = m) {rest : List Value} (hs : g.stack = .int j :: .ref a :: rest) (hd : decode c.code g.pc = .ok (.iaload, 1)) (i : Nat) (hj : j.toInt = i) {x : Value} (hi : vs[i]? = some x) :
    ∀ t, Steps p.tables e below (T.setTop { g with pc := g.pc + 1, stack := x :: rest }) t → Steps p.tables e below (T.setTop g) t := by
  obtain ⟨q1, q2⟩ := own_idx hj
  obtain ⟨cl, k, r, -, -⟩ := A
  have hz : cl.slots.size = vs.length := by rw [← r]; simp
  have hv : cl.slots[i]? = some x := by rw [← Array.getElem?_toList, r]; exact hi
  have hl := (List.getElem?_eq_some_iff.mp hi).1
  exact X.iaload hx (by rw [eT]; exact k.1) (State.isArrayOf_alike hZ.alike k.2.1) k.2.2 (by rw [q2, hz]; exact fun u => u.elim q1 (fun z => by omega)) (by rw [q2]; exact hv) hg hs hd
theorem own_ldJ (X : Stand p l e R s m args below meth c T locs cells slots) (hx : p.tables.exec = Jvm.exec) (hZ : Z.Warmed39 s.vm) (eT : T.heap = h) (A : own_AV Z h a .long vs) {j : Int32} {g : JFrame} (hg : g.method = m) {rest : List Value} (hs : g.stack = .int j :: .ref a :: rest) (hd : decode c.code g.pc = .ok (.laload, 1)) (i : Nat) (hj : j.toInt = i) {x : Value} (hi : vs[i]? = some x) :
    ∀ t, Steps p.tables e below (T.setTop { g with pc := g.pc + 1, stack := x :: rest }) t → Steps p.tables e below (T.setTop g) t := by
  obtain ⟨q1, q2⟩ := own_idx hj
  obtain ⟨cl, k, r, -, -⟩ := A
  have hz : cl.slots.size = vs.length := by rw [← r]; simp
  have hv : cl.slots[i]? = some x := by rw [← Array.getElem?_toList, r]; exact hi
  have hl := (List.getElem?_eq_some_iff.mp hi).1
  exact X.laload hx (by rw [eT]; exact k.1) (State.isArrayOf_alike hZ.alike k.2.1) k.2.2 (by rw [q2, hz]; exact fun u => u.elim q1 (fun z => by omega)) (by rw [q2]; exact hv) hg hs hd
theorem own_len (X : Stand p l e R s m args below meth c T locs cells slots) (hx : p.tables.exec = Jvm.exec) (hZ : Z.Warmed39 s.vm) (eT : T.heap = h) (A : own_AV Z h a ty vs) {g : JFrame} (hg : g.method = m) {rest : List Value} (hs : g.stack = .ref a :: rest) (hd : decode c.code g.pc = .ok (.arraylength, 1)) (n : Int32) (hn : n.toInt = vs.length) :
    ∀ t, Steps p.tables e below (T.setTop { g with pc := g.pc + 1, stack := .int n :: rest }) t → Steps p.tables e below (T.setTop g) t := by
  obtain ⟨cl, k, r, z, -⟩ := A
  have hz : cl.slots.size = vs.length := by rw [← r]; simp
  have en : cl.slots.size.toInt32 = n := Int32.toInt_inj.mp (by rw [hn, hz]; exact len_toInt z)
  intro t q
  refine X.arraylength hx (by rw [eT]; exact k.1) (State.isArrayOf_alike hZ.alike k.2.1) hg hs hd t ?_
  rw [en]; exact q
theorem own_newAE (X : Stand p l e R s m args below meth c T locs cells slots) (hx : p.tables.exec = Jvm.exec) (hZ : Z.Warmed39 s.vm) {aty : ArrayType} (w : (Jvm.Cond.arrayClass (newarray.typeOf aty)).before a0 Z = true) (eT : T.heap = h) {g : JFrame} (hg : g.method = m) (hd : decode c.code g.pc = .ok (.newarray aty, 2)) {n : Int32} {rest : List Value} (hs : g.stack = .int n :: rest)
    (k cap : Nat) (hn : n.toInt = k) (hk : k ≤ cap) (hb : cap * 8 ≤ 536870912) (hc : cells + 1 ≤ R.cells) (hl : slots + cap ≤ R.slots) {ad : String} (had : "[" ++ (newarray.typeOf aty).toString = ad) :
    ∃ T' h', Stand p l e R s m args below meth c T' locs (cells + 1) (slots + cap) ∧ T'.heap = h' ∧ Ext h h' ∧ own_AV Z h' h.size (newarray.typeOf aty) (List.replicate k (defaultValue (newarray.typeOf aty))) ∧ Exa Z h' h.size ad ∧ ∀ t, Steps p.tables e below (T'.setTop { g with pc := g.pc + 2, stack := .ref h.size :: rest }) t → Steps p.tables e below (T.setTop g) t := by
  obtain ⟨q1, q2⟩ := own_idx hn
  obtain ⟨T', h', cA, X', e', E, A, C, st⟩ := newPE X hx hZ w eT hg hd hs q1 (cap := cap) (by rw [q2]; exact hk) hb hc hl had
  exact ⟨T', h', X', e', E, own_AV_new A hn, C, st⟩
theorem own_AV.arv (A : own_AV Z h a ty vs) {z : Int32} (hz : z.toInt = vs.length) (dv : Value) : ∃ k, Arv Z h a k ty z vs dv := by
  obtain ⟨q1, q2⟩ := own_idx hz
  obtain ⟨cl, k, r, -, f⟩ := A
  have hs : cl.slots.size = vs.length := by rw [← r]; simp
  refine ⟨cl.cls, cl, k, rfl, by rw [hs, q2], q1, fun i hi => ?_, fun i hi => ?_⟩
  · rw [← Array.getElem?_toList, r, List.getD_eq_getElem?_getD, List.getElem?_eq_getElem (by omega)]; rfl
  · rw [List.getD_eq_getElem?_getD, List.getElem?_eq_getElem (by omega)]; exact f _ (List.getElem_mem _)
theorem own_arv {k : ClassId} {z : Int32} {dv : Value} (F : Arv Z h a k ty z vs dv) (hl : vs.length = z.toNatClampNeg) : own_AV Z h a ty vs := by
  obtain ⟨cl, A, -, S, q, H, G⟩ := F
  have hs : cl.slots.size = vs.length := by rw [S, hl]
  have e1 : cl.slots.toList = vs := by
    apply List.ext_getElem?
    intro i
    by_cases hi : i < vs.length
    · have := H i (by omega)
      rw [Array.getElem?_toList, this, List.getD_eq_getElem?_getD, List.getElem?_eq_getElem hi]; rfl
    · rw [List.getElem?_eq_none (l := vs) (by omega), List.getElem?_eq_none (l := cl.slots.toList) (by rw [Array.length_toList]; omega)]
  refine ⟨cl, A, e1, ?_, fun v hv => ?_⟩
  · have := z.toInt_lt
    rw [hl]; simp only [Int32.toNatClampNeg]; omega
  · obtain ⟨i, hi, rfl⟩ := List.getElem_of_mem hv
    have := G i (by omega)
    rw [List.getD_eq_getElem?_getD, List.getElem?_eq_getElem hi] at this
    exact this
theorem own_copy (X : Stand p l e R s m args below meth c T locs cells slots) (hx : p.tables.exec = Jvm.exec) (hZ : Z.Warmed39 s.vm) {own : String} {index : Nat} (hown : s.vm.findClass own = some m.cls)
    (w1 : (Jvm.Cond.methodLink own index Jvm.Stand.acN).before a0 Z = true) (w2 : (Jvm.Cond.native Jvm.Stand.acN).before a0 Z = true) (w3 : (Jvm.Cond.static Jvm.Stand.acN).before a0 Z = true) (w4 : (Jvm.Cond.initialized "java/lang/System").before a0 Z = true) (eT : T.heap = h)
    {us : List Value} (A : own_AV Z h a ty vs) (B : own_AV Z h b ty us) (hp : refKind ty = false) {sp dp nn : Int32} {g : JFrame} (hg : g.method = m) (hsize : g.locals.size = c.maxLocals) {rest : List Value} (hs : g.stack = .int nn :: .int dp :: .ref b :: .int sp :: .ref a :: rest) (hd : decode c.code g.pc = .ok (.invokestatic index, 3))
    (i j n : Nat) (hsp : sp.toInt = i) (hdp : dp.toInt = j) (hn : nn.toInt = n) (h4 : i + n ≤ vs.length) (h5 : j + n ≤ us.length) {n0 : Nat} (N : Fr n0 locs) (ge : n0 ≤ b)
    (W : Nat) (hW : 2 * g.monitorRoom + (rest.map fun v => v.category).sum ≤ W) (hf : 1 ≤ R.frames) (hlo : W + (nativeFrameWords "java/lang/System" "arraycopy" 5 + 11) ≤ R.locals) :
    ∃ T' h' L, Stand p l e R s m args below meth c T' L cells slots ∧ T'.heap = h' ∧ Fr n0 L ∧ Keep h h' [b] ∧ own_AV Z h' b ty (us.take j ++ (vs.drop i).take n ++ us.drop (j + n)) ∧
      ∀ t, Steps p.tables e below (T'.setTop { g with pc := g.pc + 3, stack := rest }) t → Steps p.tables e below (T.setTop g) t := by
  obtain ⟨s1, s2⟩ := own_idx hsp
  obtain ⟨d1, d2⟩ := own_idx hdp
  obtain ⟨n1, n2⟩ := own_idx hn
  have zA := len_toInt A.short
  have zB := len_toInt B.short
  obtain ⟨kA, FA⟩ := A.arv zA .null
  obtain ⟨kB, FB⟩ := B.arv zB .null
  have cA : vs.length.toInt32.toNatClampNeg = vs.length := (own_idx zA).2
  have cB : us.length.toInt32.toNatClampNeg = us.length := (own_idx zB).2
  have hus : (vs.drop i).take n = (List.range nn.toNatClampNeg).map fun q => vs.getD (sp.toNatClampNeg + q) .null := by
    rw [n2, s2]
    apply List.ext_getElem?
    intro q
    by_cases hq : q < n
    · rw [List.getElem?_take_of_lt hq, List.getElem?_drop, List.getElem?_map, List.getElem?_range hq, List.getElem?_eq_getElem (by omega)]
      show some _ = some (vs.getD (i + q) .null)
      rw [List.getD_eq_getElem?_getD, List.getElem?_eq_getElem (by omega)]; rfl
    · rw [List.getElem?_eq_none (by rw [List.length_take]; omega), List.getElem?_eq_none (by simp; omega)]
  obtain ⟨T', h', L, X', e', NL, K, F', st⟩ := cpA X hx hZ hown w1 w2 w3 w4 eT FA FB (Or.inl ⟨rfl, hp⟩) s1 d1 n1 (by rw [s2, n2, cA]; exact h4) (by rw [d2, n2, cB]; exact h5) hus (by rw [d2, n2]; exact h5) N ge hg hsize hs hd hf hW hlo
  rw [d2, n2] at F'
  exact ⟨T', h', L, X', e', NL, K, own_arv F' (by rw [cB]; simp only [List.length_append, List.length_take, List.length_drop]; omega), st⟩
theorem own_clone (X : Stand p l e R s m args below meth c T locs cells slots) (hx : p.tables.exec = Jvm.exec) (hZ : Z.Warmed39 s.vm) {own ad : String} {index : Nat} (hown : s.vm.findClass own = some m.cls)
    (w1 : (Jvm.Cond.methodLink own index ⟨ad, "clone", "()Ljava/lang/Object;"⟩).before a0 Z = true) (w2 : (Jvm.Cond.sameMethod ad "java/lang/Object" "clone" "()Ljava/lang/Object;").before a0 Z = true) (w3 : (Jvm.Cond.native ⟨"java/lang/Object", "clone", "()Ljava/lang/Object;"⟩).before a0 Z = true)
    (w4 : (Jvm.Cond.instanceMethod ⟨"java/lang/Object", "clone", "()Ljava/lang/Object;"⟩).before a0 Z = true) (w5 : (Jvm.Cond.selects ad ⟨ad, "clone", "()Ljava/lang/Object;"⟩ ⟨"java/lang/Object", "clone", "()Ljava/lang/Object;"⟩).before a0 Z = true) (w6 : (Jvm.Cond.castable ad "java/lang/Cloneable").before a0 Z = true)
    (eT : T.heap = h) (A : own_AV Z h a ty vs) (E : Exa Z h a ad) {g : JFrame} (hg : g.method = m) (hsize : g.locals.size = c.maxLocals) {rest : List Value} (hs : g.stack = .ref a :: rest) (hd : decode c.code g.pc = .ok (.invokevirtual index, 3))
    (W cap : Nat) (hW : 2 * g.monitorRoom + (rest.map fun v => v.category).sum ≤ W) (hf : 1 ≤ R.frames) (hl : W + 14 ≤ R.locals) (hcap : vs.length ≤ cap) (hc : cells + 1 ≤ R.cells) (hsl : slots + cap ≤ R.slots) :
    ∃ T' h', Stand p l e R s m args below meth c T' locs (cells + 1) (slots + cap) ∧ T'.heap = h' ∧ Ext h h' ∧ own_AV Z h' h.size ty vs ∧ Exa Z h' h.size ad ∧
      ∀ t, Steps p.tables e below (T'.setTop { g with pc := g.pc + 3, stack := .ref h.size :: rest }) t → Steps p.tables e below (T.setTop g) t := by
  obtain ⟨cl, k, r, z, f⟩ := A
  have hz : cl.slots.size = vs.length := by rw [← r]; simp
  have FC : FitC Z cl := fitC_of k fun i hi v hv => f v (by rw [← r]; exact List.mem_of_getElem? (i := i) (by rw [Array.getElem?_toList]; exact hv))
  obtain ⟨T', h', X', e', E', A', C', st⟩ := cloneA X hx hZ hown w1 w2 w3 w4 w5 w6 eT k E FC hg hsize hs hd hf (W := W) hW hl (cap := cap) (by omega) hc hsl
  exact ⟨T', h', X', e', E', ⟨_, A', r, z, f⟩, C', st⟩
end OwnArr
theorem d1_0 : decode prog_165_method_2_code 0 = .ok (.bipush 65, 2) := by decide +kernel
theorem d1_2 : decode prog_165_method_2_code 2 = .ok (.iload_n 0, 1) := by decide +kernel
theorem d1_3 : decode prog_165_method_2_code 3 = .ok (.if_icmp .gt 9, 3) := by decide +kernel
theorem d1_6 : decode prog_165_method_2_code 6 = .ok (.iload_n 0, 1) := by decide +kernel
theorem d1_7 : decode prog_165_method_2_code 7 = .ok (.bipush 90, 2) := by decide +kernel
theorem d1_9 : decode prog_165_method_2_code 9 = .ok (.if_icmp .le 182, 3) := by decide +kernel
theorem d1_12 : decode prog_165_method_2_code 12 = .ok (.bipush 97, 2) := by decide +kernel
theorem d1_14 : decode prog_165_method_2_code 14 = .ok (.iload_n 0, 1) := by decide +kernel
theorem d1_15 : decode prog_165_method_2_code 15 = .ok (.if_icmp .gt 9, 3) := by decide +kernel
theorem d1_18 : decode prog_165_method_2_code 18 = .ok (.iload_n 0, 1) := by decide +kernel
theorem d1_19 : decode prog_165_method_2_code 19 = .ok (.bipush 122, 2) := by decide +kernel
theorem d1_21 : decode prog_165_method_2_code 21 = .ok (.if_icmp .le 170, 3) := by decide +kernel
theorem d1_24 : decode prog_165_method_2_code 24 = .ok (.bipush 95, 2) := by decide +kernel
theorem d1_26 : decode prog_165_method_2_code 26 = .ok (.iload_n 0, 1) := by decide +kernel
theorem d1_27 : decode prog_165_method_2_code 27 = .ok (.if_icmp .eq 164, 3) := by decide +kernel
theorem d1_30 : decode prog_165_method_2_code 30 = .ok (.sipush 192, 3) := by decide +kernel
theorem d1_33 : decode prog_165_method_2_code 33 = .ok (.iload_n 0, 1) := by decide +kernel
theorem d1_34 : decode prog_165_method_2_code 34 = .ok (.if_icmp .gt 10, 3) := by decide +kernel
theorem d1_37 : decode prog_165_method_2_code 37 = .ok (.iload_n 0, 1) := by decide +kernel
theorem d1_38 : decode prog_165_method_2_code 38 = .ok (.sipush 214, 3) := by decide +kernel
theorem d1_41 : decode prog_165_method_2_code 41 = .ok (.if_icmp .le 150, 3) := by decide +kernel
theorem d1_44 : decode prog_165_method_2_code 44 = .ok (.sipush 216, 3) := by decide +kernel
theorem d1_47 : decode prog_165_method_2_code 47 = .ok (.iload_n 0, 1) := by decide +kernel
theorem d1_48 : decode prog_165_method_2_code 48 = .ok (.if_icmp .gt 10, 3) := by decide +kernel
theorem d1_51 : decode prog_165_method_2_code 51 = .ok (.iload_n 0, 1) := by decide +kernel
theorem d1_52 : decode prog_165_method_2_code 52 = .ok (.sipush 246, 3) := by decide +kernel
theorem d1_55 : decode prog_165_method_2_code 55 = .ok (.if_icmp .le 136, 3) := by decide +kernel
theorem d1_58 : decode prog_165_method_2_code 58 = .ok (.sipush 248, 3) := by decide +kernel
theorem d1_61 : decode prog_165_method_2_code 61 = .ok (.iload_n 0, 1) := by decide +kernel
theorem d1_62 : decode prog_165_method_2_code 62 = .ok (.if_icmp .gt 10, 3) := by decide +kernel
theorem d1_65 : decode prog_165_method_2_code 65 = .ok (.iload_n 0, 1) := by decide +kernel
theorem d1_66 : decode prog_165_method_2_code 66 = .ok (.sipush 767, 3) := by decide +kernel
theorem d1_69 : decode prog_165_method_2_code 69 = .ok (.if_icmp .le 122, 3) := by decide +kernel
theorem d1_72 : decode prog_165_method_2_code 72 = .ok (.sipush 880, 3) := by decide +kernel
theorem d1_75 : decode prog_165_method_2_code 75 = .ok (.iload_n 0, 1) := by decide +kernel
theorem d1_76 : decode prog_165_method_2_code 76 = .ok (.if_icmp .gt 10, 3) := by decide +kernel
theorem d1_79 : decode prog_165_method_2_code 79 = .ok (.iload_n 0, 1) := by decide +kernel
theorem d1_80 : decode prog_165_method_2_code 80 = .ok (.sipush 893, 3) := by decide +kernel
theorem d1_83 : decode prog_165_method_2_code 83 = .ok (.if_icmp .le 108, 3) := by decide +kernel
theorem d1_86 : decode prog_165_method_2_code 86 = .ok (.sipush 895, 3) := by decide +kernel
theorem d1_89 : decode prog_165_method_2_code 89 = .ok (.iload_n 0, 1) := by decide +kernel
theorem d1_90 : decode prog_165_method_2_code 90 = .ok (.if_icmp .gt 10, 3) := by decide +kernel
theorem d1_93 : decode prog_165_method_2_code 93 = .ok (.iload_n 0, 1) := by decide +kernel
theorem d1_94 : decode prog_165_method_2_code 94 = .ok (.sipush 8191, 3) := by decide +kernel
theorem d1_97 : decode prog_165_method_2_code 97 = .ok (.if_icmp .le 94, 3) := by decide +kernel
theorem d1_100 : decode prog_165_method_2_code 100 = .ok (.sipush 8204, 3) := by decide +kernel
theorem d1_103 : decode prog_165_method_2_code 103 = .ok (.iload_n 0, 1) := by decide +kernel
theorem d1_104 : decode prog_165_method_2_code 104 = .ok (.if_icmp .gt 10, 3) := by decide +kernel
theorem d1_107 : decode prog_165_method_2_code 107 = .ok (.iload_n 0, 1) := by decide +kernel
theorem d1_108 : decode prog_165_method_2_code 108 = .ok (.sipush 8205, 3) := by decide +kernel
theorem d1_111 : decode prog_165_method_2_code 111 = .ok (.if_icmp .le 80, 3) := by decide +kernel
theorem d1_114 : decode prog_165_method_2_code 114 = .ok (.sipush 8304, 3) := by decide +kernel
theorem d1_117 : decode prog_165_method_2_code 117 = .ok (.iload_n 0, 1) := by decide +kernel
theorem d1_118 : decode prog_165_method_2_code 118 = .ok (.if_icmp .gt 10, 3) := by decide +kernel
theorem d1_121 : decode prog_165_method_2_code 121 = .ok (.iload_n 0, 1) := by decide +kernel
theorem d1_122 : decode prog_165_method_2_code 122 = .ok (.sipush 8591, 3) := by decide +kernel
theorem d1_125 : decode prog_165_method_2_code 125 = .ok (.if_icmp .le 66, 3) := by decide +kernel
theorem d1_128 : decode prog_165_method_2_code 128 = .ok (.sipush 11264, 3) := by decide +kernel
theorem d1_131 : decode prog_165_method_2_code 131 = .ok (.iload_n 0, 1) := by decide +kernel
theorem d1_132 : decode prog_165_method_2_code 132 = .ok (.if_icmp .gt 10, 3) := by decide +kernel
theorem d1_135 : decode prog_165_method_2_code 135 = .ok (.iload_n 0, 1) := by decide +kernel
theorem d1_136 : decode prog_165_method_2_code 136 = .ok (.sipush 12271, 3) := by decide +kernel
theorem d1_139 : decode prog_165_method_2_code 139 = .ok (.if_icmp .le 52, 3) := by decide +kernel
theorem d1_142 : decode prog_165_method_2_code 142 = .ok (.sipush 12289, 3) := by decide +kernel
theorem d1_145 : decode prog_165_method_2_code 145 = .ok (.iload_n 0, 1) := by decide +kernel
theorem d1_146 : decode prog_165_method_2_code 146 = .ok (.if_icmp .gt 9, 3) := by decide +kernel
theorem d1_149 : decode prog_165_method_2_code 149 = .ok (.iload_n 0, 1) := by decide +kernel
theorem d1_150 : decode prog_165_method_2_code 150 = .ok (.ldc 7, 2) := by decide +kernel
theorem d1_152 : decode prog_165_method_2_code 152 = .ok (.if_icmp .le 39, 3) := by decide +kernel
theorem d1_155 : decode prog_165_method_2_code 155 = .ok (.ldc 8, 2) := by decide +kernel
theorem d1_157 : decode prog_165_method_2_code 157 = .ok (.iload_n 0, 1) := by decide +kernel
theorem d1_158 : decode prog_165_method_2_code 158 = .ok (.if_icmp .gt 9, 3) := by decide +kernel
theorem d1_161 : decode prog_165_method_2_code 161 = .ok (.iload_n 0, 1) := by decide +kernel
theorem d1_162 : decode prog_165_method_2_code 162 = .ok (.ldc 9, 2) := by decide +kernel
theorem d1_164 : decode prog_165_method_2_code 164 = .ok (.if_icmp .le 27, 3) := by decide +kernel
theorem d1_167 : decode prog_165_method_2_code 167 = .ok (.ldc 10, 2) := by decide +kernel
theorem d1_169 : decode prog_165_method_2_code 169 = .ok (.iload_n 0, 1) := by decide +kernel
theorem d1_170 : decode prog_165_method_2_code 170 = .ok (.if_icmp .gt 9, 3) := by decide +kernel
theorem d1_173 : decode prog_165_method_2_code 173 = .ok (.iload_n 0, 1) := by decide +kernel
theorem d1_174 : decode prog_165_method_2_code 174 = .ok (.ldc 11, 2) := by decide +kernel
theorem d1_176 : decode prog_165_method_2_code 176 = .ok (.if_icmp .le 15, 3) := by decide +kernel
theorem d1_179 : decode prog_165_method_2_code 179 = .ok (.ldc 12, 2) := by decide +kernel
theorem d1_181 : decode prog_165_method_2_code 181 = .ok (.iload_n 0, 1) := by decide +kernel
theorem d1_182 : decode prog_165_method_2_code 182 = .ok (.if_icmp .gt 13, 3) := by decide +kernel
theorem d1_185 : decode prog_165_method_2_code 185 = .ok (.iload_n 0, 1) := by decide +kernel
theorem d1_186 : decode prog_165_method_2_code 186 = .ok (.ldc 13, 2) := by decide +kernel
theorem d1_188 : decode prog_165_method_2_code 188 = .ok (.if_icmp .gt 7, 3) := by decide +kernel
theorem d1_191 : decode prog_165_method_2_code 191 = .ok (.iconst 1, 1) := by decide +kernel
theorem d1_192 : decode prog_165_method_2_code 192 = .ok (.goto 4, 3) := by decide +kernel
theorem d1_195 : decode prog_165_method_2_code 195 = .ok (.iconst 0, 1) := by decide +kernel
theorem d1_196 : decode prog_165_method_2_code 196 = .ok (.ireturn, 1) := by decide +kernel
def own_isNameStart_179 (y0 : Int32) : Int32 := (if y0 < (65536 : Int32) then (0 : Int32) else (if (983039 : Int32) < y0 then (0 : Int32) else (1 : Int32)))
def own_isNameStart_167 (y0 : Int32) : Int32 := (if y0 < (65008 : Int32) then (own_isNameStart_179 y0) else (if (65533 : Int32) < y0 then (own_isNameStart_179 y0) else (1 : Int32)))
def own_isNameStart_155 (y0 : Int32) : Int32 := (if y0 < (63744 : Int32) then (own_isNameStart_167 y0) else (if (64975 : Int32) < y0 then (own_isNameStart_167 y0) else (1 : Int32)))
def own_isNameStart_142 (y0 : Int32) : Int32 := (if y0 < (12289 : Int32) then (own_isNameStart_155 y0) else (if (55295 : Int32) < y0 then (own_isNameStart_155 y0) else (1 : Int32)))
def own_isNameStart_128 (y0 : Int32) : Int32 := (if y0 < (11264 : Int32) then (own_isNameStart_142 y0) else (if (12271 : Int32) < y0 then (own_isNameStart_142 y0) else (1 : Int32)))
def own_isNameStart_114 (y0 : Int32) : Int32 := (if y0 < (8304 : Int32) then (own_isNameStart_128 y0) else (if (8591 : Int32) < y0 then (own_isNameStart_128 y0) else (1 : Int32)))
def own_isNameStart_100 (y0 : Int32) : Int32 := (if y0 < (8204 : Int32) then (own_isNameStart_114 y0) else (if (8205 : Int32) < y0 then (own_isNameStart_114 y0) else (1 : Int32)))
def own_isNameStart_86 (y0 : Int32) : Int32 := (if y0 < (895 : Int32) then (own_isNameStart_100 y0) else (if (8191 : Int32) < y0 then (own_isNameStart_100 y0) else (1 : Int32)))
def own_isNameStart_72 (y0 : Int32) : Int32 := (if y0 < (880 : Int32) then (own_isNameStart_86 y0) else (if (893 : Int32) < y0 then (own_isNameStart_86 y0) else (1 : Int32)))
def own_isNameStart_58 (y0 : Int32) : Int32 := (if y0 < (248 : Int32) then (own_isNameStart_72 y0) else (if (767 : Int32) < y0 then (own_isNameStart_72 y0) else (1 : Int32)))
def own_isNameStart_44 (y0 : Int32) : Int32 := (if y0 < (216 : Int32) then (own_isNameStart_58 y0) else (if (246 : Int32) < y0 then (own_isNameStart_58 y0) else (1 : Int32)))
def own_isNameStart_24 (y0 : Int32) : Int32 := (if (95 : Int32) = y0 then (1 : Int32) else (if y0 < (192 : Int32) then (own_isNameStart_44 y0) else (if (214 : Int32) < y0 then (own_isNameStart_44 y0) else (1 : Int32))))
def own_isNameStart_12 (y0 : Int32) : Int32 := (if y0 < (97 : Int32) then (own_isNameStart_24 y0) else (if (122 : Int32) < y0 then (own_isNameStart_24 y0) else (1 : Int32)))
def own_isNameStart (x0 : Int32) : Int32 := (if x0 < (65 : Int32) then (own_isNameStart_12 x0) else (if (90 : Int32) < x0 then (own_isNameStart_12 x0) else (1 : Int32)))
set_option maxRecDepth 65536 in
set_option maxHeartbeats 40000000 in
theorem own_isNameStart_con (l : Launch) (Z : State) (a0 : Array Value) (hw : ∀ d ∈ tables_1, d.before a0 Z = true) (x0 : Int32)  (h0 : Heap) (ws : List Jvm.Cond) :
    own_Con l Z (⟨"com/example/rowtree/rowtree/store/XmlSyntax", "isNameStart", "(I)Z"⟩ : MethodName) prog_165_method_2_code 1 (some .boolean) ({ frames := 0, cells := 0, slots := 0, locals := 0 } : Room) #[(.int x0)] h0 (own_PQ h0 (.int (own_isNameStart x0))) ws := by
  refine own_con (F := fun m => (mkF m 0 #[.val (.int x0)] [])) (own_pn (by first | (simp [plainName, overriddenIn]; done) | decide +kernel)) (fun m => by first | (simp [entryFrame, mkF, argsToLocals, Value.category]; done) | rfl) ?_
  intro p e s m below meth c T X hx hby hml hZ hown hnm hret hlk eT
  have g179 : ∀ (T : State) (X : Stand p l e ({ frames := 0, cells := 0, slots := 0, locals := 0 } : Room) s m #[(.int x0)] below meth c T [] 0 0) (eT : T.heap = h0) (y0 : Int32), own_Go p e below (own_Out s (own_PQ h0 (.int (own_isNameStart_179 y0))) 0 0) (T.setTop (mkF m 179 #[.val (.int y0)] [])) := by
    intro T X eT y0
    show own_Go p e below (own_Out s (own_PQ h0 (.int (if y0 < (65536 : Int32) then (0 : Int32) else (if (983039 : Int32) < y0 then (0 : Int32) else (1 : Int32))))) 0 0) _
    refine own_go (X.ldcInt hx hown (mvT hZ (hw _ (List.mem_of_getElem? (i := 14) rfl))) (g := (mkF m 179 #[.val (.int y0)] [])) rfl (hb hby d1_179)) ?_
    show own_Go p e below _ (T.setTop (mkF m 181 #[.val (.int y0)] [(.int (65536 : Int32))]))
    refine own_go (fun _ => XS.iloadN X.here hx rfl (hb hby d1_181) rfl) ?_
    show own_Go p e below _ (T.setTop (mkF m 182 #[.val (.int y0)] [(.int y0), (.int (65536 : Int32))]))
    refine own_iteI (fun hc182 => ?_) (fun hc182 => ?_)
    · skip
      refine own_go (fun _ => XS.icmpYes X.here hx rfl (pc0 := 182) (pc' := 195) rfl (hb hby d1_182) rfl (XT.ii_gt_t hc182) (by decide) (by decide)) ?_
      show own_Go p e below _ (T.setTop (mkF m 195 #[.val (.int y0)] []))
      refine own_go (fun _ => XS.iconst X.here hx rfl (hb hby d1_195)) ?_
      show own_Go p e below _ (T.setTop (mkF m 196 #[.val (.int y0)] [(.int (0 : Int32))]))
      exact own_iret X hx hlk hret (Or.inr (Or.inl rfl)) rfl (hb hby d1_196) (Nat.zero_le _) (Nat.zero_le _) ⟨rfl, eT, rfl⟩
    · skip
      refine own_go (fun _ => XS.icmpNo X.here hx rfl (hb hby d1_182) rfl (XT.ii_gt_f hc182)) ?_
      show own_Go p e below _ (T.setTop (mkF m 185 #[.val (.int y0)] []))
      refine own_go (fun _ => XS.iloadN X.here hx rfl (hb hby d1_185) rfl) ?_
      show own_Go p e below _ (T.setTop (mkF m 186 #[.val (.int y0)] [(.int y0)]))
      refine own_go (X.ldcInt hx hown (mvT hZ (hw _ (List.mem_of_getElem? (i := 25) rfl))) (g := (mkF m 186 #[.val (.int y0)] [(.int y0)])) rfl (hb hby d1_186)) ?_
      show own_Go p e below _ (T.setTop (mkF m 188 #[.val (.int y0)] [(.int (983039 : Int32)), (.int y0)]))
      refine own_iteI (fun hc188 => ?_) (fun hc188 => ?_)
      · skip
        refine own_go (fun _ => XS.icmpYes X.here hx rfl (pc0 := 188) (pc' := 195) rfl (hb hby d1_188) rfl (XT.ii_gt_t hc188) (by decide) (by decide)) ?_
        show own_Go p e below _ (T.setTop (mkF m 195 #[.val (.int y0)] []))
        refine own_go (fun _ => XS.iconst X.here hx rfl (hb hby d1_195)) ?_
        show own_Go p e below _ (T.setTop (mkF m 196 #[.val (.int y0)] [(.int (0 : Int32))]))
        exact own_iret X hx hlk hret (Or.inr (Or.inl rfl)) rfl (hb hby d1_196) (Nat.zero_le _) (Nat.zero_le _) ⟨rfl, eT, rfl⟩
      · skip
        refine own_go (fun _ => XS.icmpNo X.here hx rfl (hb hby d1_188) rfl (XT.ii_gt_f hc188)) ?_
        show own_Go p e below _ (T.setTop (mkF m 191 #[.val (.int y0)] []))
        refine own_go (fun _ => XS.iconst X.here hx rfl (hb hby d1_191)) ?_
        show own_Go p e below _ (T.setTop (mkF m 192 #[.val (.int y0)] [(.int (1 : Int32))]))
        refine own_go (fun _ => XS.goto X.here hx rfl (pc0 := 192) (pc' := 196) rfl (hb hby d1_192) (by decide) (by decide)) ?_
        show own_Go p e below _ (T.setTop (mkF m 196 #[.val (.int y0)] [(.int (1 : Int32))]))
        exact own_iret X hx hlk hret (Or.inr (Or.inl rfl)) rfl (hb hby d1_196) (Nat.zero_le _) (Nat.zero_le _) ⟨rfl, eT, rfl⟩
  have g167 : ∀ (T : State) (X : Stand p l e ({ frames := 0, cells := 0, slots := 0, locals := 0 } : Room) s m #[(.int x0)] below meth c T [] 0 0) (eT : T.heap = h0) (y0 : Int32), own_Go p e below (own_Out s (own_PQ h0 (.int (own_isNameStart_167 y0))) 0 0) (T.setTop (mkF m 167 #[.val (.int y0)] [])) := by
    intro T X eT y0
    show own_Go p e below (own_Out s (own_PQ h0 (.int (if y0 < (65008 : Int32) then (own_isNameStart_179 y0) else (if (65533 : Int32) < y0 then (own_isNameStart_179 y0) else (1 : Int32))))) 0 0) _
    refine own_go (X.ldcInt hx hown (mvT hZ (hw _ (List.mem_of_getElem? (i := 13) rfl))) (g := (mkF m 167 #[.val (.int y0)] [])) rfl (hb hby d1_167)) ?_
    show own_Go p e below _ (T.setTop (mkF m 169 #[.val (.int y0)] [(.int (65008 : Int32))]))
    refine own_go (fun _ => XS.iloadN X.here hx rfl (hb hby d1_169) rfl) ?_
    show own_Go p e below _ (T.setTop (mkF m 170 #[.val (.int y0)] [(.int y0), (.int (65008 : Int32))]))
    refine own_iteI (fun hc170 => ?_) (fun hc170 => ?_)
    · skip
      refine own_go (fun _ => XS.icmpYes X.here hx rfl (pc0 := 170) (pc' := 179) rfl (hb hby d1_170) rfl (XT.ii_gt_t hc170) (by decide) (by decide)) ?_
      show own_Go p e below _ (T.setTop (mkF m 179 #[.val (.int y0)] []))
      exact g179 T X eT y0
    · skip
      refine own_go (fun _ => XS.icmpNo X.here hx rfl (hb hby d1_170) rfl (XT.ii_gt_f hc170)) ?_
      show own_Go p e below _ (T.setTop (mkF m 173 #[.val (.int y0)] []))
      refine own_go (fun _ => XS.iloadN X.here hx rfl (hb hby d1_173) rfl) ?_
      show own_Go p e below _ (T.setTop (mkF m 174 #[.val (.int y0)] [(.int y0)]))
      refine own_go (X.ldcInt hx hown (mvT hZ (hw _ (List.mem_of_getElem? (i := 24) rfl))) (g := (mkF m 174 #[.val (.int y0)] [(.int y0)])) rfl (hb hby d1_174)) ?_
      show own_Go p e below _ (T.setTop (mkF m 176 #[.val (.int y0)] [(.int (65533 : Int32)), (.int y0)]))
      refine own_iteI (fun hc176 => ?_) (fun hc176 => ?_)
      · skip
        refine own_go (fun _ => XS.icmpNo X.here hx rfl (hb hby d1_176) rfl (XT.ii_le_f hc176)) ?_
        show own_Go p e below _ (T.setTop (mkF m 179 #[.val (.int y0)] []))
        exact g179 T X eT y0
      · skip
        refine own_go (fun _ => XS.icmpYes X.here hx rfl (pc0 := 176) (pc' := 191) rfl (hb hby d1_176) rfl (XT.ii_le_t hc176) (by decide) (by decide)) ?_
        show own_Go p e below _ (T.setTop (mkF m 191 #[.val (.int y0)] []))
        refine own_go (fun _ => XS.iconst X.here hx rfl (hb hby d1_191)) ?_
        show own_Go p e below _ (T.setTop (mkF m 192 #[.val (.int y0)] [(.int (1 : Int32))]))
        refine own_go (fun _ => XS.goto X.here hx rfl (pc0 := 192) (pc' := 196) rfl (hb hby d1_192) (by decide) (by decide)) ?_
        show own_Go p e below _ (T.setTop (mkF m 196 #[.val (.int y0)] [(.int (1 : Int32))]))
        exact own_iret X hx hlk hret (Or.inr (Or.inl rfl)) rfl (hb hby d1_196) (Nat.zero_le _) (Nat.zero_le _) ⟨rfl, eT, rfl⟩
  have g155 : ∀ (T : State) (X : Stand p l e ({ frames := 0, cells := 0, slots := 0, locals := 0 } : Room) s m #[(.int x0)] below meth c T [] 0 0) (eT : T.heap = h0) (y0 : Int32), own_Go p e below (own_Out s (own_PQ h0 (.int (own_isNameStart_155 y0))) 0 0) (T.setTop (mkF m 155 #[.val (.int y0)] [])) := by
    intro T X eT y0
    show own_Go p e below (own_Out s (own_PQ h0 (.int (if y0 < (63744 : Int32) then (own_isNameStart_167 y0) else (if (64975 : Int32) < y0 then (own_isNameStart_167 y0) else (1 : Int32))))) 0 0) _
    refine own_go (X.ldcInt hx hown (mvT hZ (hw _ (List.mem_of_getElem? (i := 12) rfl))) (g := (mkF m 155 #[.val (.int y0)] [])) rfl (hb hby d1_155)) ?_
    show own_Go p e below _ (T.setTop (mkF m 157 #[.val (.int y0)] [(.int (63744 : Int32))]))
    refine own_go (fun _ => XS.iloadN X.here hx rfl (hb hby d1_157) rfl) ?_
    show own_Go p e below _ (T.setTop (mkF m 158 #[.val (.int y0)] [(.int y0), (.int (63744 : Int32))]))
    refine own_iteI (fun hc158 => ?_) (fun hc158 => ?_)
    · skip
      refine own_go (fun _ => XS.icmpYes X.here hx rfl (pc0 := 158) (pc' := 167) rfl (hb hby d1_158) rfl (XT.ii_gt_t hc158) (by decide) (by decide)) ?_
      show own_Go p e below _ (T.setTop (mkF m 167 #[.val (.int y0)] []))
      exact g167 T X eT y0
    · skip
      refine own_go (fun _ => XS.icmpNo X.here hx rfl (hb hby d1_158) rfl (XT.ii_gt_f hc158)) ?_
      show own_Go p e below _ (T.setTop (mkF m 161 #[.val (.int y0)] []))
      refine own_go (fun _ => XS.iloadN X.here hx rfl (hb hby d1_161) rfl) ?_
      show own_Go p e below _ (T.setTop (mkF m 162 #[.val (.int y0)] [(.int y0)]))
      refine own_go (X.ldcInt hx hown (mvT hZ (hw _ (List.mem_of_getElem? (i := 23) rfl))) (g := (mkF m 162 #[.val (.int y0)] [(.int y0)])) rfl (hb hby d1_162)) ?_
      show own_Go p e below _ (T.setTop (mkF m 164 #[.val (.int y0)] [(.int (64975 : Int32)), (.int y0)]))
      refine own_iteI (fun hc164 => ?_) (fun hc164 => ?_)
      · skip
        refine own_go (fun _ => XS.icmpNo X.here hx rfl (hb hby d1_164) rfl (XT.ii_le_f hc164)) ?_
        show own_Go p e below _ (T.setTop (mkF m 167 #[.val (.int y0)] []))
        exact g167 T X eT y0
      · skip
        refine own_go (fun _ => XS.icmpYes X.here hx rfl (pc0 := 164) (pc' := 191) rfl (hb hby d1_164) rfl (XT.ii_le_t hc164) (by decide) (by decide)) ?_
        show own_Go p e below _ (T.setTop (mkF m 191 #[.val (.int y0)] []))
        refine own_go (fun _ => XS.iconst X.here hx rfl (hb hby d1_191)) ?_
        show own_Go p e below _ (T.setTop (mkF m 192 #[.val (.int y0)] [(.int (1 : Int32))]))
        refine own_go (fun _ => XS.goto X.here hx rfl (pc0 := 192) (pc' := 196) rfl (hb hby d1_192) (by decide) (by decide)) ?_
        show own_Go p e below _ (T.setTop (mkF m 196 #[.val (.int y0)] [(.int (1 : Int32))]))
        exact own_iret X hx hlk hret (Or.inr (Or.inl rfl)) rfl (hb hby d1_196) (Nat.zero_le _) (Nat.zero_le _) ⟨rfl, eT, rfl⟩
  have g142 : ∀ (T : State) (X : Stand p l e ({ frames := 0, cells := 0, slots := 0, locals := 0 } : Room) s m #[(.int x0)] below meth c T [] 0 0) (eT : T.heap = h0) (y0 : Int32), own_Go p e below (own_Out s (own_PQ h0 (.int (own_isNameStart_142 y0))) 0 0) (T.setTop (mkF m 142 #[.val (.int y0)] [])) := by
    intro T X eT y0
    show own_Go p e below (own_Out s (own_PQ h0 (.int (if y0 < (12289 : Int32) then (own_isNameStart_155 y0) else (if (55295 : Int32) < y0 then (own_isNameStart_155 y0) else (1 : Int32))))) 0 0) _
    refine own_go (fun _ => XS.sipush X.here hx rfl (hb hby d1_142)) ?_
    show own_Go p e below _ (T.setTop (mkF m 145 #[.val (.int y0)] [(.int (12289 : Int32))]))
    refine own_go (fun _ => XS.iloadN X.here hx rfl (hb hby d1_145) rfl) ?_
    show own_Go p e below _ (T.setTop (mkF m 146 #[.val (.int y0)] [(.int y0), (.int (12289 : Int32))]))
    refine own_iteI (fun hc146 => ?_) (fun hc146 => ?_)
    · skip
      refine own_go (fun _ => XS.icmpYes X.here hx rfl (pc0 := 146) (pc' := 155) rfl (hb hby d1_146) rfl (XT.ii_gt_t hc146) (by decide) (by decide)) ?_
      show own_Go p e below _ (T.setTop (mkF m 155 #[.val (.int y0)] []))
      exact g155 T X eT y0
    · skip
      refine own_go (fun _ => XS.icmpNo X.here hx rfl (hb hby d1_146) rfl (XT.ii_gt_f hc146)) ?_
      show own_Go p e below _ (T.setTop (mkF m 149 #[.val (.int y0)] []))
      refine own_go (fun _ => XS.iloadN X.here hx rfl (hb hby d1_149) rfl) ?_
      show own_Go p e below _ (T.setTop (mkF m 150 #[.val (.int y0)] [(.int y0)]))
      refine own_go (X.ldcInt hx hown (mvT hZ (hw _ (List.mem_of_getElem? (i := 22) rfl))) (g := (mkF m 150 #[.val (.int y0)] [(.int y0)])) rfl (hb hby d1_150)) ?_
      show own_Go p e below _ (T.setTop (mkF m 152 #[.val (.int y0)] [(.int (55295 : Int32)), (.int y0)]))
      refine own_iteI (fun hc152 => ?_) (fun hc152 => ?_)
      · skip
        refine own_go (fun _ => XS.icmpNo X.here hx rfl (hb hby d1_152) rfl (XT.ii_le_f hc152)) ?_
        show own_Go p e below _ (T.setTop (mkF m 155 #[.val (.int y0)] []))
        exact g155 T X eT y0
      · skip
        refine own_go (fun _ => XS.icmpYes X.here hx rfl (pc0 := 152) (pc' := 191) rfl (hb hby d1_152) rfl (XT.ii_le_t hc152) (by decide) (by decide)) ?_
        show own_Go p e below _ (T.setTop (mkF m 191 #[.val (.int y0)] []))
        refine own_go (fun _ => XS.iconst X.here hx rfl (hb hby d1_191)) ?_
        show own_Go p e below _ (T.setTop (mkF m 192 #[.val (.int y0)] [(.int (1 : Int32))]))
        refine own_go (fun _ => XS.goto X.here hx rfl (pc0 := 192) (pc' := 196) rfl (hb hby d1_192) (by decide) (by decide)) ?_
        show own_Go p e below _ (T.setTop (mkF m 196 #[.val (.int y0)] [(.int (1 : Int32))]))
        exact own_iret X hx hlk hret (Or.inr (Or.inl rfl)) rfl (hb hby d1_196) (Nat.zero_le _) (Nat.zero_le _) ⟨rfl, eT, rfl⟩
  have g128 : ∀ (T : State) (X : Stand p l e ({ frames := 0, cells := 0, slots := 0, locals := 0 } : Room) s m #[(.int x0)] below meth c T [] 0 0) (eT : T.heap = h0) (y0 : Int32), own_Go p e below (own_Out s (own_PQ h0 (.int (own_isNameStart_128 y0))) 0 0) (T.setTop (mkF m 128 #[.val (.int y0)] [])) := by
    intro T X eT y0
    show own_Go p e below (own_Out s (own_PQ h0 (.int (if y0 < (11264 : Int32) then (own_isNameStart_142 y0) else (if (12271 : Int32) < y0 then (own_isNameStart_142 y0) else (1 : Int32))))) 0 0) _
    refine own_go (fun _ => XS.sipush X.here hx rfl (hb hby d1_128)) ?_
    show own_Go p e below _ (T.setTop (mkF m 131 #[.val (.int y0)] [(.int (11264 : Int32))]))
    refine own_go (fun _ => XS.iloadN X.here hx rfl (hb hby d1_131) rfl) ?_
    show own_Go p e below _ (T.setTop (mkF m 132 #[.val (.int y0)] [(.int y0), (.int (11264 : Int32))]))
    refine own_iteI (fun hc132 => ?_) (fun hc132 => ?_)
    · skip
      refine own_go (fun _ => XS.icmpYes X.here hx rfl (pc0 := 132) (pc' := 142) rfl (hb hby d1_132) rfl (XT.ii_gt_t hc132) (by decide) (by decide)) ?_
      show own_Go p e below _ (T.setTop (mkF m 142 #[.val (.int y0)] []))
      exact g142 T X eT y0
    · skip
      refine own_go (fun _ => XS.icmpNo X.here hx rfl (hb hby d1_132) rfl (XT.ii_gt_f hc132)) ?_
      show own_Go p e below _ (T.setTop (mkF m 135 #[.val (.int y0)] []))
      refine own_go (fun _ => XS.iloadN X.here hx rfl (hb hby d1_135) rfl) ?_
      show own_Go p e below _ (T.setTop (mkF m 136 #[.val (.int y0)] [(.int y0)]))
      refine own_go (fun _ => XS.sipush X.here hx rfl (hb hby d1_136)) ?_
      show own_Go p e below _ (T.setTop (mkF m 139 #[.val (.int y0)] [(.int (12271 : Int32)), (.int y0)]))
      refine own_iteI (fun hc139 => ?_) (fun hc139 => ?_)
      · skip
        refine own_go (fun _ => XS.icmpNo X.here hx rfl (hb hby d1_139) rfl (XT.ii_le_f hc139)) ?_
        show own_Go p e below _ (T.setTop (mkF m 142 #[.val (.int y0)] []))
        exact g142 T X eT y0
      · skip
        refine own_go (fun _ => XS.icmpYes X.here hx rfl (pc0 := 139) (pc' := 191) rfl (hb hby d1_139) rfl (XT.ii_le_t hc139) (by decide) (by decide)) ?_
        show own_Go p e below _ (T.setTop (mkF m 191 #[.val (.int y0)] []))
        refine own_go (fun _ => XS.iconst X.here hx rfl (hb hby d1_191)) ?_
        show own_Go p e below _ (T.setTop (mkF m 192 #[.val (.int y0)] [(.int (1 : Int32))]))
        refine own_go (fun _ => XS.goto X.here hx rfl (pc0 := 192) (pc' := 196) rfl (hb hby d1_192) (by decide) (by decide)) ?_
        show own_Go p e below _ (T.setTop (mkF m 196 #[.val (.int y0)] [(.int (1 : Int32))]))
        exact own_iret X hx hlk hret (Or.inr (Or.inl rfl)) rfl (hb hby d1_196) (Nat.zero_le _) (Nat.zero_le _) ⟨rfl, eT, rfl⟩
  have g114 : ∀ (T : State) (X : Stand p l e ({ frames := 0, cells := 0, slots := 0, locals := 0 } : Room) s m #[(.int x0)] below meth c T [] 0 0) (eT : T.heap = h0) (y0 : Int32), own_Go p e below (own_Out s (own_PQ h0 (.int (own_isNameStart_114 y0))) 0 0) (T.setTop (mkF m 114 #[.val (.int y0)] [])) := by
    intro T X eT y0
    show own_Go p e below (own_Out s (own_PQ h0 (.int (if y0 < (8304 : Int32) then (own_isNameStart_128 y0) else (if (8591 : Int32) < y0 then (own_isNameStart_128 y0) else (1 : Int32))))) 0 0) _
    refine own_go (fun _ => XS.sipush X.here hx rfl (hb hby d1_114)) ?_
    show own_Go p e below _ (T.setTop (mkF m 117 #[.val (.int y0)] [(.int (8304 : Int32))]))
    refine own_go (fun _ => XS.iloadN X.here hx rfl (hb hby d1_117) rfl) ?_
    show own_Go p e below _ (T.setTop (mkF m 118 #[.val (.int y0)] [(.int y0), (.int (8304 : Int32))]))
    refine own_iteI (fun hc118 => ?_) (fun hc118 => ?_)
    · skip
      refine own_go (fun _ => XS.icmpYes X.here hx rfl (pc0 := 118) (pc' := 128) rfl (hb hby d1_118) rfl (XT.ii_gt_t hc118) (by decide) (by decide)) ?_
      show own_Go p e below _ (T.setTop (mkF m 128 #[.val (.int y0)] []))
      exact g128 T X eT y0
    · skip
      refine own_go (fun _ => XS.icmpNo X.here hx rfl (hb hby d1_118) rfl (XT.ii_gt_f hc118)) ?_
      show own_Go p e below _ (T.setTop (mkF m 121 #[.val (.int y0)] []))
      refine own_go (fun _ => XS.iloadN X.here hx rfl (hb hby d1_121) rfl) ?_
      show own_Go p e below _ (T.setTop (mkF m 122 #[.val (.int y0)] [(.int y0)]))
      refine own_go (fun _ => XS.sipush X.here hx rfl (hb hby d1_122)) ?_
      show own_Go p e below _ (T.setTop (mkF m 125 #[.val (.int y0)] [(.int (8591 : Int32)), (.int y0)]))
      refine own_iteI (fun hc125 => ?_) (fun hc125 => ?_)
      · skip
        refine own_go (fun _ => XS.icmpNo X.here hx rfl (hb hby d1_125) rfl (XT.ii_le_f hc125)) ?_
        show own_Go p e below _ (T.setTop (mkF m 128 #[.val (.int y0)] []))
        exact g128 T X eT y0
      · skip
        refine own_go (fun _ => XS.icmpYes X.here hx rfl (pc0 := 125) (pc' := 191) rfl (hb hby d1_125) rfl (XT.ii_le_t hc125) (by decide) (by decide)) ?_
        show own_Go p e below _ (T.setTop (mkF m 191 #[.val (.int y0)] []))
        refine own_go (fun _ => XS.iconst X.here hx rfl (hb hby d1_191)) ?_
        show own_Go p e below _ (T.setTop (mkF m 192 #[.val (.int y0)] [(.int (1 : Int32))]))
        refine own_go (fun _ => XS.goto X.here hx rfl (pc0 := 192) (pc' := 196) rfl (hb hby d1_192) (by decide) (by decide)) ?_
        show own_Go p e below _ (T.setTop (mkF m 196 #[.val (.int y0)] [(.int (1 : Int32))]))
        exact own_iret X hx hlk hret (Or.inr (Or.inl rfl)) rfl (hb hby d1_196) (Nat.zero_le _) (Nat.zero_le _) ⟨rfl, eT, rfl⟩
  have g100 : ∀ (T : State) (X : Stand p l e ({ frames := 0, cells := 0, slots := 0, locals := 0 } : Room) s m #[(.int x0)] below meth c T [] 0 0) (eT : T.heap = h0) (y0 : Int32), own_Go p e below (own_Out s (own_PQ h0 (.int (own_isNameStart_100 y0))) 0 0) (T.setTop (mkF m 100 #[.val (.int y0)] [])) := by
    intro T X eT y0
    show own_Go p e below (own_Out s (own_PQ h0 (.int (if y0 < (8204 : Int32) then (own_isNameStart_114 y0) else (if (8205 : Int32) < y0 then (own_isNameStart_114 y0) else (1 : Int32))))) 0 0) _
    refine own_go (fun _ => XS.sipush X.here hx rfl (hb hby d1_100)) ?_
    show own_Go p e below _ (T.setTop (mkF m 103 #[.val (.int y0)] [(.int (8204 : Int32))]))
    refine own_go (fun _ => XS.iloadN X.here hx rfl (hb hby d1_103) rfl) ?_
    show own_Go p e below _ (T.setTop (mkF m 104 #[.val (.int y0)] [(.int y0), (.int (8204 : Int32))]))
    refine own_iteI (fun hc104 => ?_) (fun hc104 => ?_)
    · skip
      refine own_go (fun _ => XS.icmpYes X.here hx rfl (pc0 := 104) (pc' := 114) rfl (hb hby d1_104) rfl (XT.ii_gt_t hc104) (by decide) (by decide)) ?_
      show own_Go p e below _ (T.setTop (mkF m 114 #[.val (.int y0)] []))
      exact g114 T X eT y0
    · skip
      refine own_go (fun _ => XS.icmpNo X.here hx rfl (hb hby d1_104) rfl (XT.ii_gt_f hc104)) ?_
      show own_Go p e below _ (T.setTop (mkF m 107 #[.val (.int y0)] []))
      refine own_go (fun _ => XS.iloadN X.here hx rfl (hb hby d1_107) rfl) ?_
      show own_Go p e below _ (T.setTop (mkF m 108 #[.val (.int y0)] [(.int y0)]))
      refine own_go (fun _ => XS.sipush X.here hx rfl (hb hby d1_108)) ?_
      show own_Go p e below _ (T.setTop (mkF m 111 #[.val (.int y0)] [(.int (8205 : Int32)), (.int y0)]))
      refine own_iteI (fun hc111 => ?_) (fun hc111 => ?_)
      · skip
        refine own_go (fun _ => XS.icmpNo X.here hx rfl (hb hby d1_111) rfl (XT.ii_le_f hc111)) ?_
        show own_Go p e below _ (T.setTop (mkF m 114 #[.val (.int y0)] []))
        exact g114 T X eT y0
      · skip
        refine own_go (fun _ => XS.icmpYes X.here hx rfl (pc0 := 111) (pc' := 191) rfl (hb hby d1_111) rfl (XT.ii_le_t hc111) (by decide) (by decide)) ?_
        show own_Go p e below _ (T.setTop (mkF m 191 #[.val (.int y0)] []))
        refine own_go (fun _ => XS.iconst X.here hx rfl (hb hby d1_191)) ?_
        show own_Go p e below _ (T.setTop (mkF m 192 #[.val (.int y0)] [(.int (1 : Int32))]))
        refine own_go (fun _ => XS.goto X.here hx rfl (pc0 := 192) (pc' := 196) rfl (hb hby d1_192) (by decide) (by decide)) ?_
        show own_Go p e below _ (T.setTop (mkF m 196 #[.val (.int y0)] [(.int (1 : Int32))]))
        exact own_iret X hx hlk hret (Or.inr (Or.inl rfl)) rfl (hb hby d1_196) (Nat.zero_le _) (Nat.zero_le _) ⟨rfl, eT, rfl⟩
  have g86 : ∀ (T : State) (X : Stand p l e ({ frames := 0, cells := 0, slots := 0, locals := 0 } : Room) s m #[(.int x0)] below meth c T [] 0 0) (eT : T.heap = h0) (y0 : Int32), own_Go p e below (own_Out s (own_PQ h0 (.int (own_isNameStart_86 y0))) 0 0) (T.setTop (mkF m 86 #[.val (.int y0)] [])) := by
    intro T X eT y0
    show own_Go p e below (own_Out s (own_PQ h0 (.int (if y0 < (895 : Int32) then (own_isNameStart_100 y0) else (if (8191 : Int32) < y0 then (own_isNameStart_100 y0) else (1 : Int32))))) 0 0) _
    refine own_go (fun _ => XS.sipush X.here hx rfl (hb hby d1_86)) ?_
    show own_Go p e below _ (T.setTop (mkF m 89 #[.val (.int y0)] [(.int (895 : Int32))]))
    refine own_go (fun _ => XS.iloadN X.here hx rfl (hb hby d1_89) rfl) ?_
    show own_Go p e below _ (T.setTop (mkF m 90 #[.val (.int y0)] [(.int y0), (.int (895 : Int32))]))
    refine own_iteI (fun hc90 => ?_) (fun hc90 => ?_)
    · skip
      refine own_go (fun _ => XS.icmpYes X.here hx rfl (pc0 := 90) (pc' := 100) rfl (hb hby d1_90) rfl (XT.ii_gt_t hc90) (by decide) (by decide)) ?_
      show own_Go p e below _ (T.setTop (mkF m 100 #[.val (.int y0)] []))
      exact g100 T X eT y0
    · skip
      refine own_go (fun _ => XS.icmpNo X.here hx rfl (hb hby d1_90) rfl (XT.ii_gt_f hc90)) ?_
      show own_Go p e below _ (T.setTop (mkF m 93 #[.val (.int y0)] []))
      refine own_go (fun _ => XS.iloadN X.here hx rfl (hb hby d1_93) rfl) ?_
      show own_Go p e below _ (T.setTop (mkF m 94 #[.val (.int y0)] [(.int y0)]))
      refine own_go (fun _ => XS.sipush X.here hx rfl (hb hby d1_94)) ?_
      show own_Go p e below _ (T.setTop (mkF m 97 #[.val (.int y0)] [(.int (8191 : Int32)), (.int y0)]))
      refine own_iteI (fun hc97 => ?_) (fun hc97 => ?_)
      · skip
        refine own_go (fun _ => XS.icmpNo X.here hx rfl (hb hby d1_97) rfl (XT.ii_le_f hc97)) ?_
        show own_Go p e below _ (T.setTop (mkF m 100 #[.val (.int y0)] []))
        exact g100 T X eT y0
      · skip
        refine own_go (fun _ => XS.icmpYes X.here hx rfl (pc0 := 97) (pc' := 191) rfl (hb hby d1_97) rfl (XT.ii_le_t hc97) (by decide) (by decide)) ?_
        show own_Go p e below _ (T.setTop (mkF m 191 #[.val (.int y0)] []))
        refine own_go (fun _ => XS.iconst X.here hx rfl (hb hby d1_191)) ?_
        show own_Go p e below _ (T.setTop (mkF m 192 #[.val (.int y0)] [(.int (1 : Int32))]))
        refine own_go (fun _ => XS.goto X.here hx rfl (pc0 := 192) (pc' := 196) rfl (hb hby d1_192) (by decide) (by decide)) ?_
        show own_Go p e below _ (T.setTop (mkF m 196 #[.val (.int y0)] [(.int (1 : Int32))]))
        exact own_iret X hx hlk hret (Or.inr (Or.inl rfl)) rfl (hb hby d1_196) (Nat.zero_le _) (Nat.zero_le _) ⟨rfl, eT, rfl⟩
  have g72 : ∀ (T : State) (X : Stand p l e ({ frames := 0, cells := 0, slots := 0, locals := 0 } : Room) s m #[(.int x0)] below meth c T [] 0 0) (eT : T.heap = h0) (y0 : Int32), own_Go p e below (own_Out s (own_PQ h0 (.int (own_isNameStart_72 y0))) 0 0) (T.setTop (mkF m 72 #[.val (.int y0)] [])) := by
    intro T X eT y0
    show own_Go p e below (own_Out s (own_PQ h0 (.int (if y0 < (880 : Int32) then (own_isNameStart_86 y0) else (if (893 : Int32) < y0 then (own_isNameStart_86 y0) else (1 : Int32))))) 0 0) _
    refine own_go (fun _ => XS.sipush X.here hx rfl (hb hby d1_72)) ?_
    show own_Go p e below _ (T.setTop (mkF m 75 #[.val (.int y0)] [(.int (880 : Int32))]))
    refine own_go (fun _ => XS.iloadN X.here hx rfl (hb hby d1_75) rfl) ?_
    show own_Go p e below _ (T.setTop (mkF m 76 #[.val (.int y0)] [(.int y0), (.int (880 : Int32))]))
    refine own_iteI (fun hc76 => ?_) (fun hc76 => ?_)
    · skip
      refine own_go (fun _ => XS.icmpYes X.here hx rfl (pc0 := 76) (pc' := 86) rfl (hb hby d1_76) rfl (XT.ii_gt_t hc76) (by decide) (by decide)) ?_
      show own_Go p e below _ (T.setTop (mkF m 86 #[.val (.int y0)] []))
      exact g86 T X eT y0
    · skip
      refine own_go (fun _ => XS.icmpNo X.here hx rfl (hb hby d1_76) rfl (XT.ii_gt_f hc76)) ?_
      show own_Go p e below _ (T.setTop (mkF m 79 #[.val (.int y0)] []))
      refine own_go (fun _ => XS.iloadN X.here hx rfl (hb hby d1_79) rfl) ?_
      show own_Go p e below _ (T.setTop (mkF m 80 #[.val (.int y0)] [(.int y0)]))
      refine own_go (fun _ => XS.sipush X.here hx rfl (hb hby d1_80)) ?_
      show own_Go p e below _ (T.setTop (mkF m 83 #[.val (.int y0)] [(.int (893 : Int32)), (.int y0)]))
      refine own_iteI (fun hc83 => ?_) (fun hc83 => ?_)
      · skip
        refine own_go (fun _ => XS.icmpNo X.here hx rfl (hb hby d1_83) rfl (XT.ii_le_f hc83)) ?_
        show own_Go p e below _ (T.setTop (mkF m 86 #[.val (.int y0)] []))
        exact g86 T X eT y0
      · skip
        refine own_go (fun _ => XS.icmpYes X.here hx rfl (pc0 := 83) (pc' := 191) rfl (hb hby d1_83) rfl (XT.ii_le_t hc83) (by decide) (by decide)) ?_
        show own_Go p e below _ (T.setTop (mkF m 191 #[.val (.int y0)] []))
        refine own_go (fun _ => XS.iconst X.here hx rfl (hb hby d1_191)) ?_
        show own_Go p e below _ (T.setTop (mkF m 192 #[.val (.int y0)] [(.int (1 : Int32))]))
        refine own_go (fun _ => XS.goto X.here hx rfl (pc0 := 192) (pc' := 196) rfl (hb hby d1_192) (by decide) (by decide)) ?_
        show own_Go p e below _ (T.setTop (mkF m 196 #[.val (.int y0)] [(.int (1 : Int32))]))
        exact own_iret X hx hlk hret (Or.inr (Or.inl rfl)) rfl (hb hby d1_196) (Nat.zero_le _) (Nat.zero_le _) ⟨rfl, eT, rfl⟩
  have g58 : ∀ (T : State) (X : Stand p l e ({ frames := 0, cells := 0, slots := 0, locals := 0 } : Room) s m #[(.int x0)] below meth c T [] 0 0) (eT : T.heap = h0) (y0 : Int32), own_Go p e below (own_Out s (own_PQ h0 (.int (own_isNameStart_58 y0))) 0 0) (T.setTop (mkF m 58 #[.val (.int y0)] [])) := by
    intro T X eT y0
    show own_Go p e below (own_Out s (own_PQ h0 (.int (if y0 < (248 : Int32) then (own_isNameStart_72 y0) else (if (767 : Int32) < y0 then (own_isNameStart_72 y0) else (1 : Int32))))) 0 0) _
    refine own_go (fun _ => XS.sipush X.here hx rfl (hb hby d1_58)) ?_
    show own_Go p e below _ (T.setTop (mkF m 61 #[.val (.int y0)] [(.int (248 : Int32))]))
    refine own_go (fun _ => XS.iloadN X.here hx rfl (hb hby d1_61) rfl) ?_
    show own_Go p e below _ (T.setTop (mkF m 62 #[.val (.int y0)] [(.int y0), (.int (248 : Int32))]))
    refine own_iteI (fun hc62 => ?_) (fun hc62 => ?_)
    · skip
      refine own_go (fun _ => XS.icmpYes X.here hx rfl (pc0 := 62) (pc' := 72) rfl (hb hby d1_62) rfl (XT.ii_gt_t hc62) (by decide) (by decide)) ?_
      show own_Go p e below _ (T.setTop (mkF m 72 #[.val (.int y0)] []))
      exact g72 T X eT y0
    · skip
      refine own_go (fun _ => XS.icmpNo X.here hx rfl (hb hby d1_62) rfl (XT.ii_gt_f hc62)) ?_
      show own_Go p e below _ (T.setTop (mkF m 65 #[.val (.int y0)] []))
      refine own_go (fun _ => XS.iloadN X.here hx rfl (hb hby d1_65) rfl) ?_
      show own_Go p e below _ (T.setTop (mkF m 66 #[.val (.int y0)] [(.int y0)]))
      refine own_go (fun _ => XS.sipush X.here hx rfl (hb hby d1_66)) ?_
      show own_Go p e below _ (T.setTop (mkF m 69 #[.val (.int y0)] [(.int (767 : Int32)), (.int y0)]))
      refine own_iteI (fun hc69 => ?_) (fun hc69 => ?_)
      · skip
        refine own_go (fun _ => XS.icmpNo X.here hx rfl (hb hby d1_69) rfl (XT.ii_le_f hc69)) ?_
        show own_Go p e below _ (T.setTop (mkF m 72 #[.val (.int y0)] []))
        exact g72 T X eT y0
      · skip
        refine own_go (fun _ => XS.icmpYes X.here hx rfl (pc0 := 69) (pc' := 191) rfl (hb hby d1_69) rfl (XT.ii_le_t hc69) (by decide) (by decide)) ?_
        show own_Go p e below _ (T.setTop (mkF m 191 #[.val (.int y0)] []))
        refine own_go (fun _ => XS.iconst X.here hx rfl (hb hby d1_191)) ?_
        show own_Go p e below _ (T.setTop (mkF m 192 #[.val (.int y0)] [(.int (1 : Int32))]))
        refine own_go (fun _ => XS.goto X.here hx rfl (pc0 := 192) (pc' := 196) rfl (hb hby d1_192) (by decide) (by decide)) ?_
        show own_Go p e below _ (T.setTop (mkF m 196 #[.val (.int y0)] [(.int (1 : Int32))]))
        exact own_iret X hx hlk hret (Or.inr (Or.inl rfl)) rfl (hb hby d1_196) (Nat.zero_le _) (Nat.zero_le _) ⟨rfl, eT, rfl⟩
  have g44 : ∀ (T : State) (X : Stand p l e ({ frames := 0, cells := 0, slots := 0, locals := 0 } : Room) s m #[(.int x0)] below meth c T [] 0 0) (eT : T.heap = h0) (y0 : Int32), own_Go p e below (own_Out s (own_PQ h0 (.int (own_isNameStart_44 y0))) 0 0) (T.setTop (mkF m 44 #[.val (.int y0)] [])) := by
    intro T X eT y0
    show own_Go p e below (own_Out s (own_PQ h0 (.int (if y0 < (216 : Int32) then (own_isNameStart_58 y0) else (if (246 : Int32) < y0 then (own_isNameStart_58 y0) else (1 : Int32))))) 0 0) _
    refine own_go (fun _ => XS.sipush X.here hx rfl (hb hby d1_44)) ?_
    show own_Go p e below _ (T.setTop (mkF m 47 #[.val (.int y0)] [(.int (216 : Int32))]))
    refine own_go (fun _ => XS.iloadN X.here hx rfl (hb hby d1_47) rfl) ?_
    show own_Go p e below _ (T.setTop (mkF m 48 #[.val (.int y0)] [(.int y0), (.int (216 : Int32))]))
    refine own_iteI (fun hc48 => ?_) (fun hc48 => ?_)
    · skip
      refine own_go (fun _ => XS.icmpYes X.here hx rfl (pc0 := 48) (pc' := 58) rfl (hb hby d1_48) rfl (XT.ii_gt_t hc48) (by decide) (by decide)) ?_
      show own_Go p e below _ (T.setTop (mkF m 58 #[.val (.int y0)] []))
      exact g58 T X eT y0
    · skip
      refine own_go (fun _ => XS.icmpNo X.here hx rfl (hb hby d1_48) rfl (XT.ii_gt_f hc48)) ?_
      show own_Go p e below _ (T.setTop (mkF m 51 #[.val (.int y0)] []))
      refine own_go (fun _ => XS.iloadN X.here hx rfl (hb hby d1_51) rfl) ?_
      show own_Go p e below _ (T.setTop (mkF m 52 #[.val (.int y0)] [(.int y0)]))
      refine own_go (fun _ => XS.sipush X.here hx rfl (hb hby d1_52)) ?_
      show own_Go p e below _ (T.setTop (mkF m 55 #[.val (.int y0)] [(.int (246 : Int32)), (.int y0)]))
      refine own_iteI (fun hc55 => ?_) (fun hc55 => ?_)
      · skip
        refine own_go (fun _ => XS.icmpNo X.here hx rfl (hb hby d1_55) rfl (XT.ii_le_f hc55)) ?_
        show own_Go p e below _ (T.setTop (mkF m 58 #[.val (.int y0)] []))
        exact g58 T X eT y0
      · skip
        refine own_go (fun _ => XS.icmpYes X.here hx rfl (pc0 := 55) (pc' := 191) rfl (hb hby d1_55) rfl (XT.ii_le_t hc55) (by decide) (by decide)) ?_
        show own_Go p e below _ (T.setTop (mkF m 191 #[.val (.int y0)] []))
        refine own_go (fun _ => XS.iconst X.here hx rfl (hb hby d1_191)) ?_
        show own_Go p e below _ (T.setTop (mkF m 192 #[.val (.int y0)] [(.int (1 : Int32))]))
        refine own_go (fun _ => XS.goto X.here hx rfl (pc0 := 192) (pc' := 196) rfl (hb hby d1_192) (by decide) (by decide)) ?_
        show own_Go p e below _ (T.setTop (mkF m 196 #[.val (.int y0)] [(.int (1 : Int32))]))
        exact own_iret X hx hlk hret (Or.inr (Or.inl rfl)) rfl (hb hby d1_196) (Nat.zero_le _) (Nat.zero_le _) ⟨rfl, eT, rfl⟩
  have g24 : ∀ (T : State) (X : Stand p l e ({ frames := 0, cells := 0, slots := 0, locals := 0 } : Room) s m #[(.int x0)] below meth c T [] 0 0) (eT : T.heap = h0) (y0 : Int32), own_Go p e below (own_Out s (own_PQ h0 (.int (own_isNameStart_24 y0))) 0 0) (T.setTop (mkF m 24 #[.val (.int y0)] [])) := by
    intro T X eT y0
    show own_Go p e below (own_Out s (own_PQ h0 (.int (if (95 : Int32) = y0 then (1 : Int32) else (if y0 < (192 : Int32) then (own_isNameStart_44 y0) else (if (214 : Int32) < y0 then (own_isNameStart_44 y0) else (1 : Int32)))))) 0 0) _
    refine own_go (fun _ => XS.bipush X.here hx rfl (hb hby d1_24)) ?_
    show own_Go p e below _ (T.setTop (mkF m 26 #[.val (.int y0)] [(.int (95 : Int32))]))
    refine own_go (fun _ => XS.iloadN X.here hx rfl (hb hby d1_26) rfl) ?_
    show own_Go p e below _ (T.setTop (mkF m 27 #[.val (.int y0)] [(.int y0), (.int (95 : Int32))]))
    refine own_iteI (fun hc27 => ?_) (fun hc27 => ?_)
    · skip
      refine own_go (fun _ => XS.icmpYes X.here hx rfl (pc0 := 27) (pc' := 191) rfl (hb hby d1_27) rfl (XT.ii_eq_t hc27) (by decide) (by decide)) ?_
      show own_Go p e below _ (T.setTop (mkF m 191 #[.val (.int y0)] []))
      refine own_go (fun _ => XS.iconst X.here hx rfl (hb hby d1_191)) ?_
      show own_Go p e below _ (T.setTop (mkF m 192 #[.val (.int y0)] [(.int (1 : Int32))]))
      refine own_go (fun _ => XS.goto X.here hx rfl (pc0 := 192) (pc' := 196) rfl (hb hby d1_192) (by decide) (by decide)) ?_
      show own_Go p e below _ (T.setTop (mkF m 196 #[.val (.int y0)] [(.int (1 : Int32))]))
      exact own_iret X hx hlk hret (Or.inr (Or.inl rfl)) rfl (hb hby d1_196) (Nat.zero_le _) (Nat.zero_le _) ⟨rfl, eT, rfl⟩
    · skip
      refine own_go (fun _ => XS.icmpNo X.here hx rfl (hb hby d1_27) rfl (XT.ii_eq_f hc27)) ?_
      show own_Go p e below _ (T.setTop (mkF m 30 #[.val (.int y0)] []))
      refine own_go (fun _ => XS.sipush X.here hx rfl (hb hby d1_30)) ?_
      show own_Go p e below _ (T.setTop (mkF m 33 #[.val (.int y0)] [(.int (192 : Int32))]))
      refine own_go (fun _ => XS.iloadN X.here hx rfl (hb hby d1_33) rfl) ?_
      show own_Go p e below _ (T.setTop (mkF m 34 #[.val (.int y0)] [(.int y0), (.int (192 : Int32))]))
      refine own_iteI (fun hc34 => ?_) (fun hc34 => ?_)
      · skip
        refine own_go (fun _ => XS.icmpYes X.here hx rfl (pc0 := 34) (pc' := 44) rfl (hb hby d1_34) rfl (XT.ii_gt_t hc34) (by decide) (by decide)) ?_
        show own_Go p e below _ (T.setTop (mkF m 44 #[.val (.int y0)] []))
        exact g44 T X eT y0
      · skip
        refine own_go (fun _ => XS.icmpNo X.here hx rfl (hb hby d1_34) rfl (XT.ii_gt_f hc34)) ?_
        show own_Go p e below _ (T.setTop (mkF m 37 #[.val (.int y0)] []))
        refine own_go (fun _ => XS.iloadN X.here hx rfl (hb hby d1_37) rfl) ?_
        show own_Go p e below _ (T.setTop (mkF m 38 #[.val (.int y0)] [(.int y0)]))
        refine own_go (fun _ => XS.sipush X.here hx rfl (hb hby d1_38)) ?_
        show own_Go p e below _ (T.setTop (mkF m 41 #[.val (.int y0)] [(.int (214 : Int32)), (.int y0)]))
        refine own_iteI (fun hc41 => ?_) (fun hc41 => ?_)
        · skip
          refine own_go (fun _ => XS.icmpNo X.here hx rfl (hb hby d1_41) rfl (XT.ii_le_f hc41)) ?_
          show own_Go p e below _ (T.setTop (mkF m 44 #[.val (.int y0)] []))
          exact g44 T X eT y0
        · skip
          refine own_go (fun _ => XS.icmpYes X.here hx rfl (pc0 := 41) (pc' := 191) rfl (hb hby d1_41) rfl (XT.ii_le_t hc41) (by decide) (by decide)) ?_
          show own_Go p e below _ (T.setTop (mkF m 191 #[.val (.int y0)] []))
          refine own_go (fun _ => XS.iconst X.here hx rfl (hb hby d1_191)) ?_
          show own_Go p e below _ (T.setTop (mkF m 192 #[.val (.int y0)] [(.int (1 : Int32))]))
          refine own_go (fun _ => XS.goto X.here hx rfl (pc0 := 192) (pc' := 196) rfl (hb hby d1_192) (by decide) (by decide)) ?_
          show own_Go p e below _ (T.setTop (mkF m 196 #[.val (.int y0)] [(.int (1 : Int32))]))
          exact own_iret X hx hlk hret (Or.inr (Or.inl rfl)) rfl (hb hby d1_196) (Nat.zero_le _) (Nat.zero_le _) ⟨rfl, eT, rfl⟩
  have g12 : ∀ (T : State) (X : Stand p l e ({ frames := 0, cells := 0, slots := 0, locals := 0 } : Room) s m #[(.int x0)] below meth c T [] 0 0) (eT : T.heap = h0) (y0 : Int32), own_Go p e below (own_Out s (own_PQ h0 (.int (own_isNameStart_12 y0))) 0 0) (T.setTop (mkF m 12 #[.val (.int y0)] [])) := by
    intro T X eT y0
    show own_Go p e below (own_Out s (own_PQ h0 (.int (if y0 < (97 : Int32) then (own_isNameStart_24 y0) else (if (122 : Int32) < y0 then (own_isNameStart_24 y0) else (1 : Int32))))) 0 0) _
    refine own_go (fun _ => XS.bipush X.here hx rfl (hb hby d1_12)) ?_
    show own_Go p e below _ (T.setTop (mkF m 14 #[.val (.int y0)] [(.int (97 : Int32))]))
    refine own_go (fun _ => XS.iloadN X.here hx rfl (hb hby d1_14) rfl) ?_
    show own_Go p e below _ (T.setTop (mkF m 15 #[.val (.int y0)] [(.int y0), (.int (97 : Int32))]))
    refine own_iteI (fun hc15 => ?_) (fun hc15 => ?_)
    · skip
      refine own_go (fun _ => XS.icmpYes X.here hx rfl (pc0 := 15) (pc' := 24) rfl (hb hby d1_15) rfl (XT.ii_gt_t hc15) (by decide) (by decide)) ?_
      show own_Go p e below _ (T.setTop (mkF m 24 #[.val (.int y0)] []))
      exact g24 T X eT y0
    · skip
      refine own_go (fun _ => XS.icmpNo X.here hx rfl (hb hby d1_15) rfl (XT.ii_gt_f hc15)) ?_
      show own_Go p e below _ (T.setTop (mkF m 18 #[.val (.int y0)] []))
      refine own_go (fun _ => XS.iloadN X.here hx rfl (hb hby d1_18) rfl) ?_
      show own_Go p e below _ (T.setTop (mkF m 19 #[.val (.int y0)] [(.int y0)]))
      refine own_go (fun _ => XS.bipush X.here hx rfl (hb hby d1_19)) ?_
      show own_Go p e below _ (T.setTop (mkF m 21 #[.val (.int y0)] [(.int (122 : Int32)), (.int y0)]))
      refine own_iteI (fun hc21 => ?_) (fun hc21 => ?_)
      · skip
        refine own_go (fun _ => XS.icmpNo X.here hx rfl (hb hby d1_21) rfl (XT.ii_le_f hc21)) ?_
        show own_Go p e below _ (T.setTop (mkF m 24 #[.val (.int y0)] []))
        exact g24 T X eT y0
      · skip
        refine own_go (fun _ => XS.icmpYes X.here hx rfl (pc0 := 21) (pc' := 191) rfl (hb hby d1_21) rfl (XT.ii_le_t hc21) (by decide) (by decide)) ?_
        show own_Go p e below _ (T.setTop (mkF m 191 #[.val (.int y0)] []))
        refine own_go (fun _ => XS.iconst X.here hx rfl (hb hby d1_191)) ?_
        show own_Go p e below _ (T.setTop (mkF m 192 #[.val (.int y0)] [(.int (1 : Int32))]))
        refine own_go (fun _ => XS.goto X.here hx rfl (pc0 := 192) (pc' := 196) rfl (hb hby d1_192) (by decide) (by decide)) ?_
        show own_Go p e below _ (T.setTop (mkF m 196 #[.val (.int y0)] [(.int (1 : Int32))]))
        exact own_iret X hx hlk hret (Or.inr (Or.inl rfl)) rfl (hb hby d1_196) (Nat.zero_le _) (Nat.zero_le _) ⟨rfl, eT, rfl⟩
  show own_Go p e below (own_Out s (own_PQ h0 (.int (own_isNameStart x0))) 0 0) (T.setTop (mkF m 0 #[.val (.int x0)] []))
  show own_Go p e below (own_Out s (own_PQ h0 (.int (if x0 < (65 : Int32) then (own_isNameStart_12 x0) else (if (90 : Int32) < x0 then (own_isNameStart_12 x0) else (1 : Int32))))) 0 0) _
  refine own_go (fun _ => XS.bipush X.here hx rfl (hb hby d1_0)) ?_
  show own_Go p e below _ (T.setTop (mkF m 2 #[.val (.int x0)] [(.int (65 : Int32))]))
  refine own_go (fun _ => XS.iloadN X.here hx rfl (hb hby d1_2) rfl) ?_
  show own_Go p e below _ (T.setTop (mkF m 3 #[.val (.int x0)] [(.int x0), (.int (65 : Int32))]))
  refine own_iteI (fun hc3 => ?_) (fun hc3 => ?_)
  · skip
    refine own_go (fun _ => XS.icmpYes X.here hx rfl (pc0 := 3) (pc' := 12) rfl (hb hby d1_3) rfl (XT.ii_gt_t hc3) (by decide) (by decide)) ?_
    show own_Go p e below _ (T.setTop (mkF m 12 #[.val (.int x0)] []))
    exact g12 T X eT x0
  · skip
    refine own_go (fun _ => XS.icmpNo X.here hx rfl (hb hby d1_3) rfl (XT.ii_gt_f hc3)) ?_
    show own_Go p e below _ (T.setTop (mkF m 6 #[.val (.int x0)] []))
    refine own_go (fun _ => XS.iloadN X.here hx rfl (hb hby d1_6) rfl) ?_
    show own_Go p e below _ (T.setTop (mkF m 7 #[.val (.int x0)] [(.int x0)]))
    refine own_go (fun _ => XS.bipush X.here hx rfl (hb hby d1_7)) ?_
    show own_Go p e below _ (T.setTop (mkF m 9 #[.val (.int x0)] [(.int (90 : Int32)), (.int x0)]))
    refine own_iteI (fun hc9 => ?_) (fun hc9 => ?_)
    · skip
      refine own_go (fun _ => XS.icmpNo X.here hx rfl (hb hby d1_9) rfl (XT.ii_le_f hc9)) ?_
      show own_Go p e below _ (T.setTop (mkF m 12 #[.val (.int x0)] []))
      exact g12 T X eT x0
    · skip
      refine own_go (fun _ => XS.icmpYes X.here hx rfl (pc0 := 9) (pc' := 191) rfl (hb hby d1_9) rfl (XT.ii_le_t hc9) (by decide) (by decide)) ?_
      show own_Go p e below _ (T.setTop (mkF m 191 #[.val (.int x0)] []))
      refine own_go (fun _ => XS.iconst X.here hx rfl (hb hby d1_191)) ?_
      show own_Go p e below _ (T.setTop (mkF m 192 #[.val (.int x0)] [(.int (1 : Int32))]))
      refine own_go (fun _ => XS.goto X.here hx rfl (pc0 := 192) (pc' := 196) rfl (hb hby d1_192) (by decide) (by decide)) ?_
      show own_Go p e below _ (T.setTop (mkF m 196 #[.val (.int x0)] [(.int (1 : Int32))]))
      exact own_iret X hx hlk hret (Or.inr (Or.inl rfl)) rfl (hb hby d1_196) (Nat.zero_le _) (Nat.zero_le _) ⟨rfl, eT, rfl⟩
theorem d2_0 : decode method_2_code 0 = .ok (.iload_n 0, 1) := by decide +kernel
theorem d2_1 : decode method_2_code 1 = .ok (.bipush 65, 2) := by decide +kernel
theorem d2_3 : decode method_2_code 3 = .ok (.if_icmp .ge 5, 3) := by decide +kernel
theorem d2_6 : decode method_2_code 6 = .ok (.iconst 1, 1) := by decide +kernel
theorem d2_7 : decode method_2_code 7 = .ok (.ireturn, 1) := by decide +kernel
theorem d2_8 : decode method_2_code 8 = .ok (.bipush 91, 2) := by decide +kernel
theorem d2_10 : decode method_2_code 10 = .ok (.iload_n 0, 1) := by decide +kernel
theorem d2_11 : decode method_2_code 11 = .ok (.if_icmp .gt 11, 3) := by decide +kernel
theorem d2_14 : decode method_2_code 14 = .ok (.iload_n 0, 1) := by decide +kernel
theorem d2_15 : decode method_2_code 15 = .ok (.bipush 94, 2) := by decide +kernel
theorem d2_17 : decode method_2_code 17 = .ok (.if_icmp .gt 5, 3) := by decide +kernel
theorem d2_20 : decode method_2_code 20 = .ok (.iconst 1, 1) := by decide +kernel
theorem d2_21 : decode method_2_code 21 = .ok (.ireturn, 1) := by decide +kernel
theorem d2_22 : decode method_2_code 22 = .ok (.iload_n 0, 1) := by decide +kernel
theorem d2_23 : decode method_2_code 23 = .ok (.bipush 96, 2) := by decide +kernel
theorem d2_25 : decode method_2_code 25 = .ok (.if_icmp .ne 5, 3) := by decide +kernel
theorem d2_28 : decode method_2_code 28 = .ok (.iconst 1, 1) := by decide +kernel
theorem d2_29 : decode method_2_code 29 = .ok (.ireturn, 1) := by decide +kernel
theorem d2_30 : decode method_2_code 30 = .ok (.bipush 123, 2) := by decide +kernel
theorem d2_32 : decode method_2_code 32 = .ok (.iload_n 0, 1) := by decide +kernel
theorem d2_33 : decode method_2_code 33 = .ok (.if_icmp .gt 12, 3) := by decide +kernel
theorem d2_36 : decode method_2_code 36 = .ok (.iload_n 0, 1) := by decide +kernel
theorem d2_37 : decode method_2_code 37 = .ok (.sipush 191, 3) := by decide +kernel
theorem d2_40 : decode method_2_code 40 = .ok (.if_icmp .gt 5, 3) := by decide +kernel
theorem d2_43 : decode method_2_code 43 = .ok (.iconst 1, 1) := by decide +kernel
theorem d2_44 : decode method_2_code 44 = .ok (.ireturn, 1) := by decide +kernel
theorem d2_45 : decode method_2_code 45 = .ok (.iload_n 0, 1) := by decide +kernel
theorem d2_46 : decode method_2_code 46 = .ok (.sipush 215, 3) := by decide +kernel
theorem d2_49 : decode method_2_code 49 = .ok (.if_icmp .eq 10, 3) := by decide +kernel
theorem d2_52 : decode method_2_code 52 = .ok (.iload_n 0, 1) := by decide +kernel
theorem d2_53 : decode method_2_code 53 = .ok (.sipush 247, 3) := by decide +kernel
theorem d2_56 : decode method_2_code 56 = .ok (.if_icmp .ne 5, 3) := by decide +kernel
theorem d2_59 : decode method_2_code 59 = .ok (.iconst 1, 1) := by decide +kernel
theorem d2_60 : decode method_2_code 60 = .ok (.ireturn, 1) := by decide +kernel
theorem d2_61 : decode method_2_code 61 = .ok (.sipush 768, 3) := by decide +kernel
theorem d2_64 : decode method_2_code 64 = .ok (.iload_n 0, 1) := by decide +kernel
theorem d2_65 : decode method_2_code 65 = .ok (.if_icmp .gt 12, 3) := by decide +kernel
theorem d2_68 : decode method_2_code 68 = .ok (.iload_n 0, 1) := by decide +kernel
theorem d2_69 : decode method_2_code 69 = .ok (.sipush 879, 3) := by decide +kernel
theorem d2_72 : decode method_2_code 72 = .ok (.if_icmp .gt 5, 3) := by decide +kernel
theorem d2_75 : decode method_2_code 75 = .ok (.iconst 1, 1) := by decide +kernel
theorem d2_76 : decode method_2_code 76 = .ok (.ireturn, 1) := by decide +kernel
theorem d2_77 : decode method_2_code 77 = .ok (.iload_n 0, 1) := by decide +kernel
theorem d2_78 : decode method_2_code 78 = .ok (.sipush 894, 3) := by decide +kernel
theorem d2_81 : decode method_2_code 81 = .ok (.if_icmp .ne 5, 3) := by decide +kernel
theorem d2_84 : decode method_2_code 84 = .ok (.iconst 1, 1) := by decide +kernel
theorem d2_85 : decode method_2_code 85 = .ok (.ireturn, 1) := by decide +kernel
theorem d2_86 : decode method_2_code 86 = .ok (.sipush 8192, 3) := by decide +kernel
theorem d2_89 : decode method_2_code 89 = .ok (.iload_n 0, 1) := by decide +kernel
theorem d2_90 : decode method_2_code 90 = .ok (.if_icmp .gt 12, 3) := by decide +kernel
theorem d2_93 : decode method_2_code 93 = .ok (.iload_n 0, 1) := by decide +kernel
theorem d2_94 : decode method_2_code 94 = .ok (.sipush 8203, 3) := by decide +kernel
theorem d2_97 : decode method_2_code 97 = .ok (.if_icmp .gt 5, 3) := by decide +kernel
theorem d2_100 : decode method_2_code 100 = .ok (.iconst 1, 1) := by decide +kernel
theorem d2_101 : decode method_2_code 101 = .ok (.ireturn, 1) := by decide +kernel
theorem d2_102 : decode method_2_code 102 = .ok (.sipush 8206, 3) := by decide +kernel
theorem d2_105 : decode method_2_code 105 = .ok (.iload_n 0, 1) := by decide +kernel
theorem d2_106 : decode method_2_code 106 = .ok (.if_icmp .gt 12, 3) := by decide +kernel
theorem d2_109 : decode method_2_code 109 = .ok (.iload_n 0, 1) := by decide +kernel
theorem d2_110 : decode method_2_code 110 = .ok (.sipush 8303, 3) := by decide +kernel
theorem d2_113 : decode method_2_code 113 = .ok (.if_icmp .gt 5, 3) := by decide +kernel
theorem d2_116 : decode method_2_code 116 = .ok (.iconst 1, 1) := by decide +kernel
theorem d2_117 : decode method_2_code 117 = .ok (.ireturn, 1) := by decide +kernel
theorem d2_118 : decode method_2_code 118 = .ok (.sipush 8592, 3) := by decide +kernel
theorem d2_121 : decode method_2_code 121 = .ok (.iload_n 0, 1) := by decide +kernel
theorem d2_122 : decode method_2_code 122 = .ok (.if_icmp .gt 12, 3) := by decide +kernel
theorem d2_125 : decode method_2_code 125 = .ok (.iload_n 0, 1) := by decide +kernel
theorem d2_126 : decode method_2_code 126 = .ok (.sipush 11263, 3) := by decide +kernel
theorem d2_129 : decode method_2_code 129 = .ok (.if_icmp .gt 5, 3) := by decide +kernel
theorem d2_132 : decode method_2_code 132 = .ok (.iconst 1, 1) := by decide +kernel
theorem d2_133 : decode method_2_code 133 = .ok (.ireturn, 1) := by decide +kernel
theorem d2_134 : decode method_2_code 134 = .ok (.sipush 12272, 3) := by decide +kernel
theorem d2_137 : decode method_2_code 137 = .ok (.iload_n 0, 1) := by decide +kernel
theorem d2_138 : decode method_2_code 138 = .ok (.if_icmp .gt 12, 3) := by decide +kernel
theorem d2_141 : decode method_2_code 141 = .ok (.iload_n 0, 1) := by decide +kernel
theorem d2_142 : decode method_2_code 142 = .ok (.sipush 12288, 3) := by decide +kernel
theorem d2_145 : decode method_2_code 145 = .ok (.if_icmp .gt 5, 3) := by decide +kernel
theorem d2_148 : decode method_2_code 148 = .ok (.iconst 1, 1) := by decide +kernel
theorem d2_149 : decode method_2_code 149 = .ok (.ireturn, 1) := by decide +kernel
theorem d2_150 : decode method_2_code 150 = .ok (.ldc 7, 2) := by decide +kernel
theorem d2_152 : decode method_2_code 152 = .ok (.iload_n 0, 1) := by decide +kernel
theorem d2_153 : decode method_2_code 153 = .ok (.if_icmp .gt 11, 3) := by decide +kernel
theorem d2_156 : decode method_2_code 156 = .ok (.iload_n 0, 1) := by decide +kernel
theorem d2_157 : decode method_2_code 157 = .ok (.ldc 8, 2) := by decide +kernel
theorem d2_159 : decode method_2_code 159 = .ok (.if_icmp .gt 5, 3) := by decide +kernel
theorem d2_162 : decode method_2_code 162 = .ok (.iconst 1, 1) := by decide +kernel
theorem d2_163 : decode method_2_code 163 = .ok (.ireturn, 1) := by decide +kernel
theorem d2_164 : decode method_2_code 164 = .ok (.ldc 9, 2) := by decide +kernel
theorem d2_166 : decode method_2_code 166 = .ok (.iload_n 0, 1) := by decide +kernel
theorem d2_167 : decode method_2_code 167 = .ok (.if_icmp .gt 11, 3) := by decide +kernel
theorem d2_170 : decode method_2_code 170 = .ok (.iload_n 0, 1) := by decide +kernel
theorem d2_171 : decode method_2_code 171 = .ok (.ldc 10, 2) := by decide +kernel
theorem d2_173 : decode method_2_code 173 = .ok (.if_icmp .gt 5, 3) := by decide +kernel
theorem d2_176 : decode method_2_code 176 = .ok (.iconst 1, 1) := by decide +kernel
theorem d2_177 : decode method_2_code 177 = .ok (.ireturn, 1) := by decide +kernel
theorem d2_178 : decode method_2_code 178 = .ok (.ldc 11, 2) := by decide +kernel
theorem d2_180 : decode method_2_code 180 = .ok (.iload_n 0, 1) := by decide +kernel
theorem d2_181 : decode method_2_code 181 = .ok (.if_icmp .gt 11, 3) := by decide +kernel
theorem d2_184 : decode method_2_code 184 = .ok (.iload_n 0, 1) := by decide +kernel
theorem d2_185 : decode method_2_code 185 = .ok (.ldc 12, 2) := by decide +kernel
theorem d2_187 : decode method_2_code 187 = .ok (.if_icmp .gt 5, 3) := by decide +kernel
theorem d2_190 : decode method_2_code 190 = .ok (.iconst 1, 1) := by decide +kernel
theorem d2_191 : decode method_2_code 191 = .ok (.ireturn, 1) := by decide +kernel
theorem d2_192 : decode method_2_code 192 = .ok (.iload_n 0, 1) := by decide +kernel
theorem d2_193 : decode method_2_code 193 = .ok (.ldc 13, 2) := by decide +kernel
theorem d2_195 : decode method_2_code 195 = .ok (.if_icmp .le 5, 3) := by decide +kernel
theorem d2_198 : decode method_2_code 198 = .ok (.iconst 1, 1) := by decide +kernel
theorem d2_199 : decode method_2_code 199 = .ok (.ireturn, 1) := by decide +kernel
theorem d2_200 : decode method_2_code 200 = .ok (.iconst 0, 1) := by decide +kernel
theorem d2_201 : decode method_2_code 201 = .ok (.ireturn, 1) := by decide +kernel
def own_excluded_192 (y0 : Int32) : Int32 := (if (983039 : Int32) < y0 then (1 : Int32) else (0 : Int32))
def own_excluded_178 (y0 : Int32) : Int32 := (if y0 < (65534 : Int32) then (own_excluded_192 y0) else (if (65535 : Int32) < y0 then (own_excluded_192 y0) else (1 : Int32)))
def own_excluded_164 (y0 : Int32) : Int32 := (if y0 < (64976 : Int32) then (own_excluded_178 y0) else (if (65007 : Int32) < y0 then (own_excluded_178 y0) else (1 : Int32)))
def own_excluded_150 (y0 : Int32) : Int32 := (if y0 < (55296 : Int32) then (own_excluded_164 y0) else (if (63743 : Int32) < y0 then (own_excluded_164 y0) else (1 : Int32)))
def own_excluded_134 (y0 : Int32) : Int32 := (if y0 < (12272 : Int32) then (own_excluded_150 y0) else (if (12288 : Int32) < y0 then (own_excluded_150 y0) else (1 : Int32)))
def own_excluded_118 (y0 : Int32) : Int32 := (if y0 < (8592 : Int32) then (own_excluded_134 y0) else (if (11263 : Int32) < y0 then (own_excluded_134 y0) else (1 : Int32)))
def own_excluded_102 (y0 : Int32) : Int32 := (if y0 < (8206 : Int32) then (own_excluded_118 y0) else (if (8303 : Int32) < y0 then (own_excluded_118 y0) else (1 : Int32)))
def own_excluded_77 (y0 : Int32) : Int32 := (if y0 = (894 : Int32) then (1 : Int32) else (if y0 < (8192 : Int32) then (own_excluded_102 y0) else (if (8203 : Int32) < y0 then (own_excluded_102 y0) else (1 : Int32))))
def own_excluded_45 (y0 : Int32) : Int32 := (if y0 = (215 : Int32) then (1 : Int32) else (if y0 = (247 : Int32) then (1 : Int32) else (if y0 < (768 : Int32) then (own_excluded_77 y0) else (if (879 : Int32) < y0 then (own_excluded_77 y0) else (1 : Int32)))))
def own_excluded_22 (y0 : Int32) : Int32 := (if y0 = (96 : Int32) then (1 : Int32) else (if y0 < (123 : Int32) then (own_excluded_45 y0) else (if (191 : Int32) < y0 then (own_excluded_45 y0) else (1 : Int32))))
def own_excluded (x0 : Int32) : Int32 := (if x0 < (65 : Int32) then (1 : Int32) else (if x0 < (91 : Int32) then (own_excluded_22 x0) else (if (94 : Int32) < x0 then (own_excluded_22 x0) else (1 : Int32))))
set_option maxRecDepth 65536 in
set_option maxHeartbeats 40000000 in
theorem own_excluded_con (l : Launch) (Z : State) (a0 : Array Value) (hw : ∀ d ∈ tables_1, d.before a0 Z = true) (x0 : Int32)  (h0 : Heap) (ws : List Jvm.Cond) :
    own_Con l Z (⟨"com/example/rowtree/rowtree/store/XmlSyntaxIsNameStartPinLaw", "excluded", "(I)Z"⟩ : MethodName) method_2_code 1 (some .boolean) ({ frames := 0, cells := 0, slots := 0, locals := 0 } : Room) #[(.int x0)] h0 (own_PQ h0 (.int (own_excluded x0))) ws := by
  refine own_con (F := fun m => (mkF m 0 #[.val (.int x0)] [])) (own_pn (by first | (simp [plainName, overriddenIn]; done) | decide +kernel)) (fun m => by first | (simp [entryFrame, mkF, argsToLocals, Value.category]; done) | rfl) ?_
  intro p e s m below meth c T X hx hby hml hZ hown hnm hret hlk eT
  have g192 : ∀ (T : State) (X : Stand p l e ({ frames := 0, cells := 0, slots := 0, locals := 0 } : Room) s m #[(.int x0)] below meth c T [] 0 0) (eT : T.heap = h0) (y0 : Int32), own_Go p e below (own_Out s (own_PQ h0 (.int (own_excluded_192 y0))) 0 0) (T.setTop (mkF m 192 #[.val (.int y0)] [])) := by
    intro T X eT y0
    show own_Go p e below (own_Out s (own_PQ h0 (.int (if (983039 : Int32) < y0 then (1 : Int32) else (0 : Int32)))) 0 0) _
    refine own_go (fun _ => XS.iloadN X.here hx rfl (hb hby d2_192) rfl) ?_
    show own_Go p e below _ (T.setTop (mkF m 193 #[.val (.int y0)] [(.int y0)]))
    refine own_go (X.ldcInt hx hown (mvT hZ (hw _ (List.mem_of_getElem? (i := 7) rfl))) (g := (mkF m 193 #[.val (.int y0)] [(.int y0)])) rfl (hb hby d2_193)) ?_
    show own_Go p e below _ (T.setTop (mkF m 195 #[.val (.int y0)] [(.int (983039 : Int32)), (.int y0)]))
    refine own_iteI (fun hc195 => ?_) (fun hc195 => ?_)
    · skip
      refine own_go (fun _ => XS.icmpNo X.here hx rfl (hb hby d2_195) rfl (XT.ii_le_f hc195)) ?_
      show own_Go p e below _ (T.setTop (mkF m 198 #[.val (.int y0)] []))
      refine own_go (fun _ => XS.iconst X.here hx rfl (hb hby d2_198)) ?_
      show own_Go p e below _ (T.setTop (mkF m 199 #[.val (.int y0)] [(.int (1 : Int32))]))
      exact own_iret X hx hlk hret (Or.inr (Or.inl rfl)) rfl (hb hby d2_199) (Nat.zero_le _) (Nat.zero_le _) ⟨rfl, eT, rfl⟩
    · skip
      refine own_go (fun _ => XS.icmpYes X.here hx rfl (pc0 := 195) (pc' := 200) rfl (hb hby d2_195) rfl (XT.ii_le_t hc195) (by decide) (by decide)) ?_
      show own_Go p e below _ (T.setTop (mkF m 200 #[.val (.int y0)] []))
      refine own_go (fun _ => XS.iconst X.here hx rfl (hb hby d2_200)) ?_
      show own_Go p e below _ (T.setTop (mkF m 201 #[.val (.int y0)] [(.int (0 : Int32))]))
      exact own_iret X hx hlk hret (Or.inr (Or.inl rfl)) rfl (hb hby d2_201) (Nat.zero_le _) (Nat.zero_le _) ⟨rfl, eT, rfl⟩
  have g178 : ∀ (T : State) (X : Stand p l e ({ frames := 0, cells := 0, slots := 0, locals := 0 } : Room) s m #[(.int x0)] below meth c T [] 0 0) (eT : T.heap = h0) (y0 : Int32), own_Go p e below (own_Out s (own_PQ h0 (.int (own_excluded_178 y0))) 0 0) (T.setTop (mkF m 178 #[.val (.int y0)] [])) := by
    intro T X eT y0
    show own_Go p e below (own_Out s (own_PQ h0 (.int (if y0 < (65534 : Int32) then (own_excluded_192 y0) else (if (65535 : Int32) < y0 then (own_excluded_192 y0) else (1 : Int32))))) 0 0) _
    refine own_go (X.ldcInt hx hown (mvT hZ (hw _ (List.mem_of_getElem? (i := 21) rfl))) (g := (mkF m 178 #[.val (.int y0)] [])) rfl (hb hby d2_178)) ?_
    show own_Go p e below _ (T.setTop (mkF m 180 #[.val (.int y0)] [(.int (65534 : Int32))]))
    refine own_go (fun _ => XS.iloadN X.here hx rfl (hb hby d2_180) rfl) ?_
    show own_Go p e below _ (T.setTop (mkF m 181 #[.val (.int y0)] [(.int y0), (.int (65534 : Int32))]))
    refine own_iteI (fun hc181 => ?_) (fun hc181 => ?_)
    · skip
      refine own_go (fun _ => XS.icmpYes X.here hx rfl (pc0 := 181) (pc' := 192) rfl (hb hby d2_181) rfl (XT.ii_gt_t hc181) (by decide) (by decide)) ?_
      show own_Go p e below _ (T.setTop (mkF m 192 #[.val (.int y0)] []))
      exact g192 T X eT y0
    · skip
      refine own_go (fun _ => XS.icmpNo X.here hx rfl (hb hby d2_181) rfl (XT.ii_gt_f hc181)) ?_
      show own_Go p e below _ (T.setTop (mkF m 184 #[.val (.int y0)] []))
      refine own_go (fun _ => XS.iloadN X.here hx rfl (hb hby d2_184) rfl) ?_
      show own_Go p e below _ (T.setTop (mkF m 185 #[.val (.int y0)] [(.int y0)]))
      refine own_go (X.ldcInt hx hown (mvT hZ (hw _ (List.mem_of_getElem? (i := 28) rfl))) (g := (mkF m 185 #[.val (.int y0)] [(.int y0)])) rfl (hb hby d2_185)) ?_
      show own_Go p e below _ (T.setTop (mkF m 187 #[.val (.int y0)] [(.int (65535 : Int32)), (.int y0)]))
      refine own_iteI (fun hc187 => ?_) (fun hc187 => ?_)
      · skip
        refine own_go (fun _ => XS.icmpYes X.here hx rfl (pc0 := 187) (pc' := 192) rfl (hb hby d2_187) rfl (XT.ii_gt_t hc187) (by decide) (by decide)) ?_
        show own_Go p e below _ (T.setTop (mkF m 192 #[.val (.int y0)] []))
        exact g192 T X eT y0
      · skip
        refine own_go (fun _ => XS.icmpNo X.here hx rfl (hb hby d2_187) rfl (XT.ii_gt_f hc187)) ?_
        show own_Go p e below _ (T.setTop (mkF m 190 #[.val (.int y0)] []))
        refine own_go (fun _ => XS.iconst X.here hx rfl (hb hby d2_190)) ?_
        show own_Go p e below _ (T.setTop (mkF m 191 #[.val (.int y0)] [(.int (1 : Int32))]))
        exact own_iret X hx hlk hret (Or.inr (Or.inl rfl)) rfl (hb hby d2_191) (Nat.zero_le _) (Nat.zero_le _) ⟨rfl, eT, rfl⟩
  have g164 : ∀ (T : State) (X : Stand p l e ({ frames := 0, cells := 0, slots := 0, locals := 0 } : Room) s m #[(.int x0)] below meth c T [] 0 0) (eT : T.heap = h0) (y0 : Int32), own_Go p e below (own_Out s (own_PQ h0 (.int (own_excluded_164 y0))) 0 0) (T.setTop (mkF m 164 #[.val (.int y0)] [])) := by
    intro T X eT y0
    show own_Go p e below (own_Out s (own_PQ h0 (.int (if y0 < (64976 : Int32) then (own_excluded_178 y0) else (if (65007 : Int32) < y0 then (own_excluded_178 y0) else (1 : Int32))))) 0 0) _
    refine own_go (X.ldcInt hx hown (mvT hZ (hw _ (List.mem_of_getElem? (i := 20) rfl))) (g := (mkF m 164 #[.val (.int y0)] [])) rfl (hb hby d2_164)) ?_
    show own_Go p e below _ (T.setTop (mkF m 166 #[.val (.int y0)] [(.int (64976 : Int32))]))
    refine own_go (fun _ => XS.iloadN X.here hx rfl (hb hby d2_166) rfl) ?_
    show own_Go p e below _ (T.setTop (mkF m 167 #[.val (.int y0)] [(.int y0), (.int (64976 : Int32))]))
    refine own_iteI (fun hc167 => ?_) (fun hc167 => ?_)
    · skip
      refine own_go (fun _ => XS.icmpYes X.here hx rfl (pc0 := 167) (pc' := 178) rfl (hb hby d2_167) rfl (XT.ii_gt_t hc167) (by decide) (by decide)) ?_
      show own_Go p e below _ (T.setTop (mkF m 178 #[.val (.int y0)] []))
      exact g178 T X eT y0
    · skip
      refine own_go (fun _ => XS.icmpNo X.here hx rfl (hb hby d2_167) rfl (XT.ii_gt_f hc167)) ?_
      show own_Go p e below _ (T.setTop (mkF m 170 #[.val (.int y0)] []))
      refine own_go (fun _ => XS.iloadN X.here hx rfl (hb hby d2_170) rfl) ?_
      show own_Go p e below _ (T.setTop (mkF m 171 #[.val (.int y0)] [(.int y0)]))
      refine own_go (X.ldcInt hx hown (mvT hZ (hw _ (List.mem_of_getElem? (i := 27) rfl))) (g := (mkF m 171 #[.val (.int y0)] [(.int y0)])) rfl (hb hby d2_171)) ?_
      show own_Go p e below _ (T.setTop (mkF m 173 #[.val (.int y0)] [(.int (65007 : Int32)), (.int y0)]))
      refine own_iteI (fun hc173 => ?_) (fun hc173 => ?_)
      · skip
        refine own_go (fun _ => XS.icmpYes X.here hx rfl (pc0 := 173) (pc' := 178) rfl (hb hby d2_173) rfl (XT.ii_gt_t hc173) (by decide) (by decide)) ?_
        show own_Go p e below _ (T.setTop (mkF m 178 #[.val (.int y0)] []))
        exact g178 T X eT y0
      · skip
        refine own_go (fun _ => XS.icmpNo X.here hx rfl (hb hby d2_173) rfl (XT.ii_gt_f hc173)) ?_
        show own_Go p e below _ (T.setTop (mkF m 176 #[.val (.int y0)] []))
        refine own_go (fun _ => XS.iconst X.here hx rfl (hb hby d2_176)) ?_
        show own_Go p e below _ (T.setTop (mkF m 177 #[.val (.int y0)] [(.int (1 : Int32))]))
        exact own_iret X hx hlk hret (Or.inr (Or.inl rfl)) rfl (hb hby d2_177) (Nat.zero_le _) (Nat.zero_le _) ⟨rfl, eT, rfl⟩
  have g150 : ∀ (T : State) (X : Stand p l e ({ frames := 0, cells := 0, slots := 0, locals := 0 } : Room) s m #[(.int x0)] below meth c T [] 0 0) (eT : T.heap = h0) (y0 : Int32), own_Go p e below (own_Out s (own_PQ h0 (.int (own_excluded_150 y0))) 0 0) (T.setTop (mkF m 150 #[.val (.int y0)] [])) := by
    intro T X eT y0
    show own_Go p e below (own_Out s (own_PQ h0 (.int (if y0 < (55296 : Int32) then (own_excluded_164 y0) else (if (63743 : Int32) < y0 then (own_excluded_164 y0) else (1 : Int32))))) 0 0) _
    refine own_go (X.ldcInt hx hown (mvT hZ (hw _ (List.mem_of_getElem? (i := 19) rfl))) (g := (mkF m 150 #[.val (.int y0)] [])) rfl (hb hby d2_150)) ?_
    show own_Go p e below _ (T.setTop (mkF m 152 #[.val (.int y0)] [(.int (55296 : Int32))]))
    refine own_go (fun _ => XS.iloadN X.here hx rfl (hb hby d2_152) rfl) ?_
    show own_Go p e below _ (T.setTop (mkF m 153 #[.val (.int y0)] [(.int y0), (.int (55296 : Int32))]))
    refine own_iteI (fun hc153 => ?_) (fun hc153 => ?_)
    · skip
      refine own_go (fun _ => XS.icmpYes X.here hx rfl (pc0 := 153) (pc' := 164) rfl (hb hby d2_153) rfl (XT.ii_gt_t hc153) (by decide) (by decide)) ?_
      show own_Go p e below _ (T.setTop (mkF m 164 #[.val (.int y0)] []))
      exact g164 T X eT y0
    · skip
      refine own_go (fun _ => XS.icmpNo X.here hx rfl (hb hby d2_153) rfl (XT.ii_gt_f hc153)) ?_
      show own_Go p e below _ (T.setTop (mkF m 156 #[.val (.int y0)] []))
      refine own_go (fun _ => XS.iloadN X.here hx rfl (hb hby d2_156) rfl) ?_
      show own_Go p e below _ (T.setTop (mkF m 157 #[.val (.int y0)] [(.int y0)]))
      refine own_go (X.ldcInt hx hown (mvT hZ (hw _ (List.mem_of_getElem? (i := 26) rfl))) (g := (mkF m 157 #[.val (.int y0)] [(.int y0)])) rfl (hb hby d2_157)) ?_
      show own_Go p e below _ (T.setTop (mkF m 159 #[.val (.int y0)] [(.int (63743 : Int32)), (.int y0)]))
      refine own_iteI (fun hc159 => ?_) (fun hc159 => ?_)
      · skip
        refine own_go (fun _ => XS.icmpYes X.here hx rfl (pc0 := 159) (pc' := 164) rfl (hb hby d2_159) rfl (XT.ii_gt_t hc159) (by decide) (by decide)) ?_
        show own_Go p e below _ (T.setTop (mkF m 164 #[.val (.int y0)] []))
        exact g164 T X eT y0
      · skip
        refine own_go (fun _ => XS.icmpNo X.here hx rfl (hb hby d2_159) rfl (XT.ii_gt_f hc159)) ?_
        show own_Go p e below _ (T.setTop (mkF m 162 #[.val (.int y0)] []))
        refine own_go (fun _ => XS.iconst X.here hx rfl (hb hby d2_162)) ?_
        show own_Go p e below _ (T.setTop (mkF m 163 #[.val (.int y0)] [(.int (1 : Int32))]))
        exact own_iret X hx hlk hret (Or.inr (Or.inl rfl)) rfl (hb hby d2_163) (Nat.zero_le _) (Nat.zero_le _) ⟨rfl, eT, rfl⟩
  have g134 : ∀ (T : State) (X : Stand p l e ({ frames := 0, cells := 0, slots := 0, locals := 0 } : Room) s m #[(.int x0)] below meth c T [] 0 0) (eT : T.heap = h0) (y0 : Int32), own_Go p e below (own_Out s (own_PQ h0 (.int (own_excluded_134 y0))) 0 0) (T.setTop (mkF m 134 #[.val (.int y0)] [])) := by
    intro T X eT y0
    show own_Go p e below (own_Out s (own_PQ h0 (.int (if y0 < (12272 : Int32) then (own_excluded_150 y0) else (if (12288 : Int32) < y0 then (own_excluded_150 y0) else (1 : Int32))))) 0 0) _
    refine own_go (fun _ => XS.sipush X.here hx rfl (hb hby d2_134)) ?_
    show own_Go p e below _ (T.setTop (mkF m 137 #[.val (.int y0)] [(.int (12272 : Int32))]))
    refine own_go (fun _ => XS.iloadN X.here hx rfl (hb hby d2_137) rfl) ?_
    show own_Go p e below _ (T.setTop (mkF m 138 #[.val (.int y0)] [(.int y0), (.int (12272 : Int32))]))
    refine own_iteI (fun hc138 => ?_) (fun hc138 => ?_)
    · skip
      refine own_go (fun _ => XS.icmpYes X.here hx rfl (pc0 := 138) (pc' := 150) rfl (hb hby d2_138) rfl (XT.ii_gt_t hc138) (by decide) (by decide)) ?_
      show own_Go p e below _ (T.setTop (mkF m 150 #[.val (.int y0)] []))
      exact g150 T X eT y0
    · skip
      refine own_go (fun _ => XS.icmpNo X.here hx rfl (hb hby d2_138) rfl (XT.ii_gt_f hc138)) ?_
      show own_Go p e below _ (T.setTop (mkF m 141 #[.val (.int y0)] []))
      refine own_go (fun _ => XS.iloadN X.here hx rfl (hb hby d2_141) rfl) ?_
      show own_Go p e below _ (T.setTop (mkF m 142 #[.val (.int y0)] [(.int y0)]))
      refine own_go (fun _ => XS.sipush X.here hx rfl (hb hby d2_142)) ?_
      show own_Go p e below _ (T.setTop (mkF m 145 #[.val (.int y0)] [(.int (12288 : Int32)), (.int y0)]))
      refine own_iteI (fun hc145 => ?_) (fun hc145 => ?_)
      · skip
        refine own_go (fun _ => XS.icmpYes X.here hx rfl (pc0 := 145) (pc' := 150) rfl (hb hby d2_145) rfl (XT.ii_gt_t hc145) (by decide) (by decide)) ?_
        show own_Go p e below _ (T.setTop (mkF m 150 #[.val (.int y0)] []))
        exact g150 T X eT y0
      · skip
        refine own_go (fun _ => XS.icmpNo X.here hx rfl (hb hby d2_145) rfl (XT.ii_gt_f hc145)) ?_
        show own_Go p e below _ (T.setTop (mkF m 148 #[.val (.int y0)] []))
        refine own_go (fun _ => XS.iconst X.here hx rfl (hb hby d2_148)) ?_
        show own_Go p e below _ (T.setTop (mkF m 149 #[.val (.int y0)] [(.int (1 : Int32))]))
        exact own_iret X hx hlk hret (Or.inr (Or.inl rfl)) rfl (hb hby d2_149) (Nat.zero_le _) (Nat.zero_le _) ⟨rfl, eT, rfl⟩
  have g118 : ∀ (T : State) (X : Stand p l e ({ frames := 0, cells := 0, slots := 0, locals := 0 } : Room) s m #[(.int x0)] below meth c T [] 0 0) (eT : T.heap = h0) (y0 : Int32), own_Go p e below (own_Out s (own_PQ h0 (.int (own_excluded_118 y0))) 0 0) (T.setTop (mkF m 118 #[.val (.int y0)] [])) := by
    intro T X eT y0
    show own_Go p e below (own_Out s (own_PQ h0 (.int (if y0 < (8592 : Int32) then (own_excluded_134 y0) else (if (11263 : Int32) < y0 then (own_excluded_134 y0) else (1 : Int32))))) 0 0) _
    refine own_go (fun _ => XS.sipush X.here hx rfl (hb hby d2_118)) ?_
    show own_Go p e below _ (T.setTop (mkF m 121 #[.val (.int y0)] [(.int (8592 : Int32))]))
    refine own_go (fun _ => XS.iloadN X.here hx rfl (hb hby d2_121) rfl) ?_
    show own_Go p e below _ (T.setTop (mkF m 122 #[.val (.int y0)] [(.int y0), (.int (8592 : Int32))]))
    refine own_iteI (fun hc122 => ?_) (fun hc122 => ?_)
    · skip
      refine own_go (fun _ => XS.icmpYes X.here hx rfl (pc0 := 122) (pc' := 134) rfl (hb hby d2_122) rfl (XT.ii_gt_t hc122) (by decide) (by decide)) ?_
      show own_Go p e below _ (T.setTop (mkF m 134 #[.val (.int y0)] []))
      exact g134 T X eT y0
    · skip
      refine own_go (fun _ => XS.icmpNo X.here hx rfl (hb hby d2_122) rfl (XT.ii_gt_f hc122)) ?_
      show own_Go p e below _ (T.setTop (mkF m 125 #[.val (.int y0)] []))
      refine own_go (fun _ => XS.iloadN X.here hx rfl (hb hby d2_125) rfl) ?_
      show own_Go p e below _ (T.setTop (mkF m 126 #[.val (.int y0)] [(.int y0)]))
      refine own_go (fun _ => XS.sipush X.here hx rfl (hb hby d2_126)) ?_
      show own_Go p e below _ (T.setTop (mkF m 129 #[.val (.int y0)] [(.int (11263 : Int32)), (.int y0)]))
      refine own_iteI (fun hc129 => ?_) (fun hc129 => ?_)
      · skip
        refine own_go (fun _ => XS.icmpYes X.here hx rfl (pc0 := 129) (pc' := 134) rfl (hb hby d2_129) rfl (XT.ii_gt_t hc129) (by decide) (by decide)) ?_
        show own_Go p e below _ (T.setTop (mkF m 134 #[.val (.int y0)] []))
        exact g134 T X eT y0
      · skip
        refine own_go (fun _ => XS.icmpNo X.here hx rfl (hb hby d2_129) rfl (XT.ii_gt_f hc129)) ?_
        show own_Go p e below _ (T.setTop (mkF m 132 #[.val (.int y0)] []))
        refine own_go (fun _ => XS.iconst X.here hx rfl (hb hby d2_132)) ?_
        show own_Go p e below _ (T.setTop (mkF m 133 #[.val (.int y0)] [(.int (1 : Int32))]))
        exact own_iret X hx hlk hret (Or.inr (Or.inl rfl)) rfl (hb hby d2_133) (Nat.zero_le _) (Nat.zero_le _) ⟨rfl, eT, rfl⟩
  have g102 : ∀ (T : State) (X : Stand p l e ({ frames := 0, cells := 0, slots := 0, locals := 0 } : Room) s m #[(.int x0)] below meth c T [] 0 0) (eT : T.heap = h0) (y0 : Int32), own_Go p e below (own_Out s (own_PQ h0 (.int (own_excluded_102 y0))) 0 0) (T.setTop (mkF m 102 #[.val (.int y0)] [])) := by
    intro T X eT y0
    show own_Go p e below (own_Out s (own_PQ h0 (.int (if y0 < (8206 : Int32) then (own_excluded_118 y0) else (if (8303 : Int32) < y0 then (own_excluded_118 y0) else (1 : Int32))))) 0 0) _
    refine own_go (fun _ => XS.sipush X.here hx rfl (hb hby d2_102)) ?_
    show own_Go p e below _ (T.setTop (mkF m 105 #[.val (.int y0)] [(.int (8206 : Int32))]))
    refine own_go (fun _ => XS.iloadN X.here hx rfl (hb hby d2_105) rfl) ?_
    show own_Go p e below _ (T.setTop (mkF m 106 #[.val (.int y0)] [(.int y0), (.int (8206 : Int32))]))
    refine own_iteI (fun hc106 => ?_) (fun hc106 => ?_)
    · skip
      refine own_go (fun _ => XS.icmpYes X.here hx rfl (pc0 := 106) (pc' := 118) rfl (hb hby d2_106) rfl (XT.ii_gt_t hc106) (by decide) (by decide)) ?_
      show own_Go p e below _ (T.setTop (mkF m 118 #[.val (.int y0)] []))
      exact g118 T X eT y0
    · skip
      refine own_go (fun _ => XS.icmpNo X.here hx rfl (hb hby d2_106) rfl (XT.ii_gt_f hc106)) ?_
      show own_Go p e below _ (T.setTop (mkF m 109 #[.val (.int y0)] []))
      refine own_go (fun _ => XS.iloadN X.here hx rfl (hb hby d2_109) rfl) ?_
      show own_Go p e below _ (T.setTop (mkF m 110 #[.val (.int y0)] [(.int y0)]))
      refine own_go (fun _ => XS.sipush X.here hx rfl (hb hby d2_110)) ?_
      show own_Go p e below _ (T.setTop (mkF m 113 #[.val (.int y0)] [(.int (8303 : Int32)), (.int y0)]))
      refine own_iteI (fun hc113 => ?_) (fun hc113 => ?_)
      · skip
        refine own_go (fun _ => XS.icmpYes X.here hx rfl (pc0 := 113) (pc' := 118) rfl (hb hby d2_113) rfl (XT.ii_gt_t hc113) (by decide) (by decide)) ?_
        show own_Go p e below _ (T.setTop (mkF m 118 #[.val (.int y0)] []))
        exact g118 T X eT y0
      · skip
        refine own_go (fun _ => XS.icmpNo X.here hx rfl (hb hby d2_113) rfl (XT.ii_gt_f hc113)) ?_
        show own_Go p e below _ (T.setTop (mkF m 116 #[.val (.int y0)] []))
        refine own_go (fun _ => XS.iconst X.here hx rfl (hb hby d2_116)) ?_
        show own_Go p e below _ (T.setTop (mkF m 117 #[.val (.int y0)] [(.int (1 : Int32))]))
        exact own_iret X hx hlk hret (Or.inr (Or.inl rfl)) rfl (hb hby d2_117) (Nat.zero_le _) (Nat.zero_le _) ⟨rfl, eT, rfl⟩
  have g77 : ∀ (T : State) (X : Stand p l e ({ frames := 0, cells := 0, slots := 0, locals := 0 } : Room) s m #[(.int x0)] below meth c T [] 0 0) (eT : T.heap = h0) (y0 : Int32), own_Go p e below (own_Out s (own_PQ h0 (.int (own_excluded_77 y0))) 0 0) (T.setTop (mkF m 77 #[.val (.int y0)] [])) := by
    intro T X eT y0
    show own_Go p e below (own_Out s (own_PQ h0 (.int (if y0 = (894 : Int32) then (1 : Int32) else (if y0 < (8192 : Int32) then (own_excluded_102 y0) else (if (8203 : Int32) < y0 then (own_excluded_102 y0) else (1 : Int32)))))) 0 0) _
    refine own_go (fun _ => XS.iloadN X.here hx rfl (hb hby d2_77) rfl) ?_
    show own_Go p e below _ (T.setTop (mkF m 78 #[.val (.int y0)] [(.int y0)]))
    refine own_go (fun _ => XS.sipush X.here hx rfl (hb hby d2_78)) ?_
    show own_Go p e below _ (T.setTop (mkF m 81 #[.val (.int y0)] [(.int (894 : Int32)), (.int y0)]))
    refine own_iteI (fun hc81 => ?_) (fun hc81 => ?_)
    · skip
      refine own_go (fun _ => XS.icmpNo X.here hx rfl (hb hby d2_81) rfl (XT.ii_ne_f hc81)) ?_
      show own_Go p e below _ (T.setTop (mkF m 84 #[.val (.int y0)] []))
      refine own_go (fun _ => XS.iconst X.here hx rfl (hb hby d2_84)) ?_
      show own_Go p e below _ (T.setTop (mkF m 85 #[.val (.int y0)] [(.int (1 : Int32))]))
      exact own_iret X hx hlk hret (Or.inr (Or.inl rfl)) rfl (hb hby d2_85) (Nat.zero_le _) (Nat.zero_le _) ⟨rfl, eT, rfl⟩
    · skip
      refine own_go (fun _ => XS.icmpYes X.here hx rfl (pc0 := 81) (pc' := 86) rfl (hb hby d2_81) rfl (XT.ii_ne_t hc81) (by decide) (by decide)) ?_
      show own_Go p e below _ (T.setTop (mkF m 86 #[.val (.int y0)] []))
      refine own_go (fun _ => XS.sipush X.here hx rfl (hb hby d2_86)) ?_
      show own_Go p e below _ (T.setTop (mkF m 89 #[.val (.int y0)] [(.int (8192 : Int32))]))
      refine own_go (fun _ => XS.iloadN X.here hx rfl (hb hby d2_89) rfl) ?_
      show own_Go p e below _ (T.setTop (mkF m 90 #[.val (.int y0)] [(.int y0), (.int (8192 : Int32))]))
      refine own_iteI (fun hc90 => ?_) (fun hc90 => ?_)
      · skip
        refine own_go (fun _ => XS.icmpYes X.here hx rfl (pc0 := 90) (pc' := 102) rfl (hb hby d2_90) rfl (XT.ii_gt_t hc90) (by decide) (by decide)) ?_
        show own_Go p e below _ (T.setTop (mkF m 102 #[.val (.int y0)] []))
        exact g102 T X eT y0
      · skip
        refine own_go (fun _ => XS.icmpNo X.here hx rfl (hb hby d2_90) rfl (XT.ii_gt_f hc90)) ?_
        show own_Go p e below _ (T.setTop (mkF m 93 #[.val (.int y0)] []))
        refine own_go (fun _ => XS.iloadN X.here hx rfl (hb hby d2_93) rfl) ?_
        show own_Go p e below _ (T.setTop (mkF m 94 #[.val (.int y0)] [(.int y0)]))
        refine own_go (fun _ => XS.sipush X.here hx rfl (hb hby d2_94)) ?_
        show own_Go p e below _ (T.setTop (mkF m 97 #[.val (.int y0)] [(.int (8203 : Int32)), (.int y0)]))
        refine own_iteI (fun hc97 => ?_) (fun hc97 => ?_)
        · skip
          refine own_go (fun _ => XS.icmpYes X.here hx rfl (pc0 := 97) (pc' := 102) rfl (hb hby d2_97) rfl (XT.ii_gt_t hc97) (by decide) (by decide)) ?_
          show own_Go p e below _ (T.setTop (mkF m 102 #[.val (.int y0)] []))
          exact g102 T X eT y0
        · skip
          refine own_go (fun _ => XS.icmpNo X.here hx rfl (hb hby d2_97) rfl (XT.ii_gt_f hc97)) ?_
          show own_Go p e below _ (T.setTop (mkF m 100 #[.val (.int y0)] []))
          refine own_go (fun _ => XS.iconst X.here hx rfl (hb hby d2_100)) ?_
          show own_Go p e below _ (T.setTop (mkF m 101 #[.val (.int y0)] [(.int (1 : Int32))]))
          exact own_iret X hx hlk hret (Or.inr (Or.inl rfl)) rfl (hb hby d2_101) (Nat.zero_le _) (Nat.zero_le _) ⟨rfl, eT, rfl⟩
  have g45 : ∀ (T : State) (X : Stand p l e ({ frames := 0, cells := 0, slots := 0, locals := 0 } : Room) s m #[(.int x0)] below meth c T [] 0 0) (eT : T.heap = h0) (y0 : Int32), own_Go p e below (own_Out s (own_PQ h0 (.int (own_excluded_45 y0))) 0 0) (T.setTop (mkF m 45 #[.val (.int y0)] [])) := by
    intro T X eT y0
    show own_Go p e below (own_Out s (own_PQ h0 (.int (if y0 = (215 : Int32) then (1 : Int32) else (if y0 = (247 : Int32) then (1 : Int32) else (if y0 < (768 : Int32) then (own_excluded_77 y0) else (if (879 : Int32) < y0 then (own_excluded_77 y0) else (1 : Int32))))))) 0 0) _
    refine own_go (fun _ => XS.iloadN X.here hx rfl (hb hby d2_45) rfl) ?_
    show own_Go p e below _ (T.setTop (mkF m 46 #[.val (.int y0)] [(.int y0)]))
    refine own_go (fun _ => XS.sipush X.here hx rfl (hb hby d2_46)) ?_
    show own_Go p e below _ (T.setTop (mkF m 49 #[.val (.int y0)] [(.int (215 : Int32)), (.int y0)]))
    refine own_iteI (fun hc49 => ?_) (fun hc49 => ?_)
    · skip
      refine own_go (fun _ => XS.icmpYes X.here hx rfl (pc0 := 49) (pc' := 59) rfl (hb hby d2_49) rfl (XT.ii_eq_t hc49) (by decide) (by decide)) ?_
      show own_Go p e below _ (T.setTop (mkF m 59 #[.val (.int y0)] []))
      refine own_go (fun _ => XS.iconst X.here hx rfl (hb hby d2_59)) ?_
      show own_Go p e below _ (T.setTop (mkF m 60 #[.val (.int y0)] [(.int (1 : Int32))]))
      exact own_iret X hx hlk hret (Or.inr (Or.inl rfl)) rfl (hb hby d2_60) (Nat.zero_le _) (Nat.zero_le _) ⟨rfl, eT, rfl⟩
    · skip
      refine own_go (fun _ => XS.icmpNo X.here hx rfl (hb hby d2_49) rfl (XT.ii_eq_f hc49)) ?_
      show own_Go p e below _ (T.setTop (mkF m 52 #[.val (.int y0)] []))
      refine own_go (fun _ => XS.iloadN X.here hx rfl (hb hby d2_52) rfl) ?_
      show own_Go p e below _ (T.setTop (mkF m 53 #[.val (.int y0)] [(.int y0)]))
      refine own_go (fun _ => XS.sipush X.here hx rfl (hb hby d2_53)) ?_
      show own_Go p e below _ (T.setTop (mkF m 56 #[.val (.int y0)] [(.int (247 : Int32)), (.int y0)]))
      refine own_iteI (fun hc56 => ?_) (fun hc56 => ?_)
      · skip
        refine own_go (fun _ => XS.icmpNo X.here hx rfl (hb hby d2_56) rfl (XT.ii_ne_f hc56)) ?_
        show own_Go p e below _ (T.setTop (mkF m 59 #[.val (.int y0)] []))
        refine own_go (fun _ => XS.iconst X.here hx rfl (hb hby d2_59)) ?_
        show own_Go p e below _ (T.setTop (mkF m 60 #[.val (.int y0)] [(.int (1 : Int32))]))
        exact own_iret X hx hlk hret (Or.inr (Or.inl rfl)) rfl (hb hby d2_60) (Nat.zero_le _) (Nat.zero_le _) ⟨rfl, eT, rfl⟩
      · skip
        refine own_go (fun _ => XS.icmpYes X.here hx rfl (pc0 := 56) (pc' := 61) rfl (hb hby d2_56) rfl (XT.ii_ne_t hc56) (by decide) (by decide)) ?_
        show own_Go p e below _ (T.setTop (mkF m 61 #[.val (.int y0)] []))
        refine own_go (fun _ => XS.sipush X.here hx rfl (hb hby d2_61)) ?_
        show own_Go p e below _ (T.setTop (mkF m 64 #[.val (.int y0)] [(.int (768 : Int32))]))
        refine own_go (fun _ => XS.iloadN X.here hx rfl (hb hby d2_64) rfl) ?_
        show own_Go p e below _ (T.setTop (mkF m 65 #[.val (.int y0)] [(.int y0), (.int (768 : Int32))]))
        refine own_iteI (fun hc65 => ?_) (fun hc65 => ?_)
        · skip
          refine own_go (fun _ => XS.icmpYes X.here hx rfl (pc0 := 65) (pc' := 77) rfl (hb hby d2_65) rfl (XT.ii_gt_t hc65) (by decide) (by decide)) ?_
          show own_Go p e below _ (T.setTop (mkF m 77 #[.val (.int y0)] []))
          exact g77 T X eT y0
        · skip
          refine own_go (fun _ => XS.icmpNo X.here hx rfl (hb hby d2_65) rfl (XT.ii_gt_f hc65)) ?_
          show own_Go p e below _ (T.setTop (mkF m 68 #[.val (.int y0)] []))
          refine own_go (fun _ => XS.iloadN X.here hx rfl (hb hby d2_68) rfl) ?_
          show own_Go p e below _ (T.setTop (mkF m 69 #[.val (.int y0)] [(.int y0)]))
          refine own_go (fun _ => XS.sipush X.here hx rfl (hb hby d2_69)) ?_
          show own_Go p e below _ (T.setTop (mkF m 72 #[.val (.int y0)] [(.int (879 : Int32)), (.int y0)]))
          refine own_iteI (fun hc72 => ?_) (fun hc72 => ?_)
          · skip
            refine own_go (fun _ => XS.icmpYes X.here hx rfl (pc0 := 72) (pc' := 77) rfl (hb hby d2_72) rfl (XT.ii_gt_t hc72) (by decide) (by decide)) ?_
            show own_Go p e below _ (T.setTop (mkF m 77 #[.val (.int y0)] []))
            exact g77 T X eT y0
          · skip
            refine own_go (fun _ => XS.icmpNo X.here hx rfl (hb hby d2_72) rfl (XT.ii_gt_f hc72)) ?_
            show own_Go p e below _ (T.setTop (mkF m 75 #[.val (.int y0)] []))
            refine own_go (fun _ => XS.iconst X.here hx rfl (hb hby d2_75)) ?_
            show own_Go p e below _ (T.setTop (mkF m 76 #[.val (.int y0)] [(.int (1 : Int32))]))
            exact own_iret X hx hlk hret (Or.inr (Or.inl rfl)) rfl (hb hby d2_76) (Nat.zero_le _) (Nat.zero_le _) ⟨rfl, eT, rfl⟩
  have g22 : ∀ (T : State) (X : Stand p l e ({ frames := 0, cells := 0, slots := 0, locals := 0 } : Room) s m #[(.int x0)] below meth c T [] 0 0) (eT : T.heap = h0) (y0 : Int32), own_Go p e below (own_Out s (own_PQ h0 (.int (own_excluded_22 y0))) 0 0) (T.setTop (mkF m 22 #[.val (.int y0)] [])) := by
    intro T X eT y0
    show own_Go p e below (own_Out s (own_PQ h0 (.int (if y0 = (96 : Int32) then (1 : Int32) else (if y0 < (123 : Int32) then (own_excluded_45 y0) else (if (191 : Int32) < y0 then (own_excluded_45 y0) else (1 : Int32)))))) 0 0) _
    refine own_go (fun _ => XS.iloadN X.here hx rfl (hb hby d2_22) rfl) ?_
    show own_Go p e below _ (T.setTop (mkF m 23 #[.val (.int y0)] [(.int y0)]))
    refine own_go (fun _ => XS.bipush X.here hx rfl (hb hby d2_23)) ?_
    show own_Go p e below _ (T.setTop (mkF m 25 #[.val (.int y0)] [(.int (96 : Int32)), (.int y0)]))
    refine own_iteI (fun hc25 => ?_) (fun hc25 => ?_)
    · skip
      refine own_go (fun _ => XS.icmpNo X.here hx rfl (hb hby d2_25) rfl (XT.ii_ne_f hc25)) ?_
      show own_Go p e below _ (T.setTop (mkF m 28 #[.val (.int y0)] []))
      refine own_go (fun _ => XS.iconst X.here hx rfl (hb hby d2_28)) ?_
      show own_Go p e below _ (T.setTop (mkF m 29 #[.val (.int y0)] [(.int (1 : Int32))]))
      exact own_iret X hx hlk hret (Or.inr (Or.inl rfl)) rfl (hb hby d2_29) (Nat.zero_le _) (Nat.zero_le _) ⟨rfl, eT, rfl⟩
    · skip
      refine own_go (fun _ => XS.icmpYes X.here hx rfl (pc0 := 25) (pc' := 30) rfl (hb hby d2_25) rfl (XT.ii_ne_t hc25) (by decide) (by decide)) ?_
      show own_Go p e below _ (T.setTop (mkF m 30 #[.val (.int y0)] []))
      refine own_go (fun _ => XS.bipush X.here hx rfl (hb hby d2_30)) ?_
      show own_Go p e below _ (T.setTop (mkF m 32 #[.val (.int y0)] [(.int (123 : Int32))]))
      refine own_go (fun _ => XS.iloadN X.here hx rfl (hb hby d2_32) rfl) ?_
      show own_Go p e below _ (T.setTop (mkF m 33 #[.val (.int y0)] [(.int y0), (.int (123 : Int32))]))
      refine own_iteI (fun hc33 => ?_) (fun hc33 => ?_)
      · skip
        refine own_go (fun _ => XS.icmpYes X.here hx rfl (pc0 := 33) (pc' := 45) rfl (hb hby d2_33) rfl (XT.ii_gt_t hc33) (by decide) (by decide)) ?_
        show own_Go p e below _ (T.setTop (mkF m 45 #[.val (.int y0)] []))
        exact g45 T X eT y0
      · skip
        refine own_go (fun _ => XS.icmpNo X.here hx rfl (hb hby d2_33) rfl (XT.ii_gt_f hc33)) ?_
        show own_Go p e below _ (T.setTop (mkF m 36 #[.val (.int y0)] []))
        refine own_go (fun _ => XS.iloadN X.here hx rfl (hb hby d2_36) rfl) ?_
        show own_Go p e below _ (T.setTop (mkF m 37 #[.val (.int y0)] [(.int y0)]))
        refine own_go (fun _ => XS.sipush X.here hx rfl (hb hby d2_37)) ?_
        show own_Go p e below _ (T.setTop (mkF m 40 #[.val (.int y0)] [(.int (191 : Int32)), (.int y0)]))
        refine own_iteI (fun hc40 => ?_) (fun hc40 => ?_)
        · skip
          refine own_go (fun _ => XS.icmpYes X.here hx rfl (pc0 := 40) (pc' := 45) rfl (hb hby d2_40) rfl (XT.ii_gt_t hc40) (by decide) (by decide)) ?_
          show own_Go p e below _ (T.setTop (mkF m 45 #[.val (.int y0)] []))
          exact g45 T X eT y0
        · skip
          refine own_go (fun _ => XS.icmpNo X.here hx rfl (hb hby d2_40) rfl (XT.ii_gt_f hc40)) ?_
          show own_Go p e below _ (T.setTop (mkF m 43 #[.val (.int y0)] []))
          refine own_go (fun _ => XS.iconst X.here hx rfl (hb hby d2_43)) ?_
          show own_Go p e below _ (T.setTop (mkF m 44 #[.val (.int y0)] [(.int (1 : Int32))]))
          exact own_iret X hx hlk hret (Or.inr (Or.inl rfl)) rfl (hb hby d2_44) (Nat.zero_le _) (Nat.zero_le _) ⟨rfl, eT, rfl⟩
  show own_Go p e below (own_Out s (own_PQ h0 (.int (own_excluded x0))) 0 0) (T.setTop (mkF m 0 #[.val (.int x0)] []))
  show own_Go p e below (own_Out s (own_PQ h0 (.int (if x0 < (65 : Int32) then (1 : Int32) else (if x0 < (91 : Int32) then (own_excluded_22 x0) else (if (94 : Int32) < x0 then (own_excluded_22 x0) else (1 : Int32)))))) 0 0) _
  refine own_go (fun _ => XS.iloadN X.here hx rfl (hb hby d2_0) rfl) ?_
  show own_Go p e below _ (T.setTop (mkF m 1 #[.val (.int x0)] [(.int x0)]))
  refine own_go (fun _ => XS.bipush X.here hx rfl (hb hby d2_1)) ?_
  show own_Go p e below _ (T.setTop (mkF m 3 #[.val (.int x0)] [(.int (65 : Int32)), (.int x0)]))
  refine own_iteI (fun hc3 => ?_) (fun hc3 => ?_)
  · skip
    refine own_go (fun _ => XS.icmpNo X.here hx rfl (hb hby d2_3) rfl (XT.ii_ge_f hc3)) ?_
    show own_Go p e below _ (T.setTop (mkF m 6 #[.val (.int x0)] []))
    refine own_go (fun _ => XS.iconst X.here hx rfl (hb hby d2_6)) ?_
    show own_Go p e below _ (T.setTop (mkF m 7 #[.val (.int x0)] [(.int (1 : Int32))]))
    exact own_iret X hx hlk hret (Or.inr (Or.inl rfl)) rfl (hb hby d2_7) (Nat.zero_le _) (Nat.zero_le _) ⟨rfl, eT, rfl⟩
  · skip
    refine own_go (fun _ => XS.icmpYes X.here hx rfl (pc0 := 3) (pc' := 8) rfl (hb hby d2_3) rfl (XT.ii_ge_t hc3) (by decide) (by decide)) ?_
    show own_Go p e below _ (T.setTop (mkF m 8 #[.val (.int x0)] []))
    refine own_go (fun _ => XS.bipush X.here hx rfl (hb hby d2_8)) ?_
    show own_Go p e below _ (T.setTop (mkF m 10 #[.val (.int x0)] [(.int (91 : Int32))]))
    refine own_go (fun _ => XS.iloadN X.here hx rfl (hb hby d2_10) rfl) ?_
    show own_Go p e below _ (T.setTop (mkF m 11 #[.val (.int x0)] [(.int x0), (.int (91 : Int32))]))
    refine own_iteI (fun hc11 => ?_) (fun hc11 => ?_)
    · skip
      refine own_go (fun _ => XS.icmpYes X.here hx rfl (pc0 := 11) (pc' := 22) rfl (hb hby d2_11) rfl (XT.ii_gt_t hc11) (by decide) (by decide)) ?_
      show own_Go p e below _ (T.setTop (mkF m 22 #[.val (.int x0)] []))
      exact g22 T X eT x0
    · skip
      refine own_go (fun _ => XS.icmpNo X.here hx rfl (hb hby d2_11) rfl (XT.ii_gt_f hc11)) ?_
      show own_Go p e below _ (T.setTop (mkF m 14 #[.val (.int x0)] []))
      refine own_go (fun _ => XS.iloadN X.here hx rfl (hb hby d2_14) rfl) ?_
      show own_Go p e below _ (T.setTop (mkF m 15 #[.val (.int x0)] [(.int x0)]))
      refine own_go (fun _ => XS.bipush X.here hx rfl (hb hby d2_15)) ?_
      show own_Go p e below _ (T.setTop (mkF m 17 #[.val (.int x0)] [(.int (94 : Int32)), (.int x0)]))
      refine own_iteI (fun hc17 => ?_) (fun hc17 => ?_)
      · skip
        refine own_go (fun _ => XS.icmpYes X.here hx rfl (pc0 := 17) (pc' := 22) rfl (hb hby d2_17) rfl (XT.ii_gt_t hc17) (by decide) (by decide)) ?_
        show own_Go p e below _ (T.setTop (mkF m 22 #[.val (.int x0)] []))
        exact g22 T X eT x0
      · skip
        refine own_go (fun _ => XS.icmpNo X.here hx rfl (hb hby d2_17) rfl (XT.ii_gt_f hc17)) ?_
        show own_Go p e below _ (T.setTop (mkF m 20 #[.val (.int x0)] []))
        refine own_go (fun _ => XS.iconst X.here hx rfl (hb hby d2_20)) ?_
        show own_Go p e below _ (T.setTop (mkF m 21 #[.val (.int x0)] [(.int (1 : Int32))]))
        exact own_iret X hx hlk hret (Or.inr (Or.inl rfl)) rfl (hb hby d2_21) (Nat.zero_le _) (Nat.zero_le _) ⟨rfl, eT, rfl⟩
theorem own_ex (xs : List Int32) (i : Nat) (h : i < xs.length) : ∃ y, (xs.map Value.int)[i]? = some (.int y) := by
  refine ⟨xs[i], ?_⟩
  rw [List.getElem?_map, List.getElem?_eq_getElem h]; rfl
theorem own_rem31 (z : Int32) (hz : 0 ≤ z.toInt) : (z - (z / (31 : Int32)) * (31 : Int32)).toInt = z.toInt % 31 := by
  have d1 := (c_idiv z 31 31 (by decide) (by decide)).1 hz
  have d2 := c_imul (z / (31 : Int32)) 31
  have d3 := c_isub z ((z / (31 : Int32)) * (31 : Int32))
  have b1 := z.toInt_lt
  have b2 := ((z / (31 : Int32)) * (31 : Int32)).toInt_lt
  have b3 := ((z / (31 : Int32)) * (31 : Int32)).le_toInt
  have b4 := (z - (z / (31 : Int32)) * (31 : Int32)).toInt_lt
  have b5 := (z - (z / (31 : Int32)) * (31 : Int32)).le_toInt
  have l31 : (31 : Int32).toInt = 31 := by decide
  rw [l31, d1] at d2
  omega
theorem own_two {c d : Prop} [Decidable c] [Decidable d] {A B : Int32} : (if c then B else if d then B else A) = if ¬ c ∧ ¬ d then A else B := by
  by_cases h1 : c <;> by_cases h2 : d <;> simp [h1, h2]
theorem own_same (x : Int32) : (own_isNameStart x = 1 ∧ own_excluded x = 0) ∨ (own_isNameStart x = 0 ∧ own_excluded x = 1) := by
  simp only [own_isNameStart_179, own_isNameStart_167, own_isNameStart_155, own_isNameStart_142, own_isNameStart_128, own_isNameStart_114, own_isNameStart_100, own_isNameStart_86, own_isNameStart_72, own_isNameStart_58, own_isNameStart_44, own_isNameStart_24, own_isNameStart_12, own_isNameStart, own_excluded_192, own_excluded_178, own_excluded_164, own_excluded_150, own_excluded_134, own_excluded_118, own_excluded_102, own_excluded_77, own_excluded_45, own_excluded_22, own_excluded, own_two, Int32.lt_iff_toInt_lt, ← Int32.toInt_inj (x := x), ← Int32.toInt_inj (y := x)]
  simp only [Int32.reduceToInt]
  generalize x.toInt = n at *
  by_cases q0 : n < 65
  · refine Or.inr ⟨?_, ?_⟩
    · repeat first | rfl | rw [if_pos (by omega)] | rw [if_neg (by omega)]
    · repeat first | rfl | rw [if_pos (by omega)] | rw [if_neg (by omega)]
  by_cases q1 : n < 91
  · refine Or.inl ⟨?_, ?_⟩
    · repeat first | rfl | rw [if_pos (by omega)] | rw [if_neg (by omega)]
    · repeat first | rfl | rw [if_pos (by omega)] | rw [if_neg (by omega)]
  by_cases q2 : n < 95
  · refine Or.inr ⟨?_, ?_⟩
    · repeat first | rfl | rw [if_pos (by omega)] | rw [if_neg (by omega)]
    · repeat first | rfl | rw [if_pos (by omega)] | rw [if_neg (by omega)]
  by_cases q3 : n < 96
  · refine Or.inl ⟨?_, ?_⟩
    · repeat first | rfl | rw [if_pos (by omega)] | rw [if_neg (by omega)]
    · repeat first | rfl | rw [if_pos (by omega)] | rw [if_neg (by omega)]
  by_cases q4 : n < 97
  · refine Or.inr ⟨?_, ?_⟩
    · repeat first | rfl | rw [if_pos (by omega)] | rw [if_neg (by omega)]
    · repeat first | rfl | rw [if_pos (by omega)] | rw [if_neg (by omega)]
  by_cases q5 : n < 123
  · refine Or.inl ⟨?_, ?_⟩
    · repeat first | rfl | rw [if_pos (by omega)] | rw [if_neg (by omega)]
    · repeat first | rfl | rw [if_pos (by omega)] | rw [if_neg (by omega)]
  by_cases q6 : n < 192
  · refine Or.inr ⟨?_, ?_⟩
    · repeat first | rfl | rw [if_pos (by omega)] | rw [if_neg (by omega)]
    · repeat first | rfl | rw [if_pos (by omega)] | rw [if_neg (by omega)]
  by_cases q7 : n < 215
  · refine Or.inl ⟨?_, ?_⟩
    · repeat first | rfl | rw [if_pos (by omega)] | rw [if_neg (by omega)]
    · repeat first | rfl | rw [if_pos (by omega)] | rw [if_neg (by omega)]
  by_cases q8 : n < 216
  · refine Or.inr ⟨?_, ?_⟩
    · repeat first | rfl | rw [if_pos (by omega)] | rw [if_neg (by omega)]
    · repeat first | rfl | rw [if_pos (by omega)] | rw [if_neg (by omega)]
  by_cases q9 : n < 247
  · refine Or.inl ⟨?_, ?_⟩
    · repeat first | rfl | rw [if_pos (by omega)] | rw [if_neg (by omega)]
    · repeat first | rfl | rw [if_pos (by omega)] | rw [if_neg (by omega)]
  by_cases q10 : n < 248
  · refine Or.inr ⟨?_, ?_⟩
    · repeat first | rfl | rw [if_pos (by omega)] | rw [if_neg (by omega)]
    · repeat first | rfl | rw [if_pos (by omega)] | rw [if_neg (by omega)]
  by_cases q11 : n < 768
  · refine Or.inl ⟨?_, ?_⟩
    · repeat first | rfl | rw [if_pos (by omega)] | rw [if_neg (by omega)]
    · repeat first | rfl | rw [if_pos (by omega)] | rw [if_neg (by omega)]
  by_cases q12 : n < 880
  · refine Or.inr ⟨?_, ?_⟩
    · repeat first | rfl | rw [if_pos (by omega)] | rw [if_neg (by omega)]
    · repeat first | rfl | rw [if_pos (by omega)] | rw [if_neg (by omega)]
  by_cases q13 : n < 894
  · refine Or.inl ⟨?_, ?_⟩
    · repeat first | rfl | rw [if_pos (by omega)] | rw [if_neg (by omega)]
    · repeat first | rfl | rw [if_pos (by omega)] | rw [if_neg (by omega)]
  by_cases q14 : n < 895
  · refine Or.inr ⟨?_, ?_⟩
    · repeat first | rfl | rw [if_pos (by omega)] | rw [if_neg (by omega)]
    · repeat first | rfl | rw [if_pos (by omega)] | rw [if_neg (by omega)]
  by_cases q15 : n < 8192
  · refine Or.inl ⟨?_, ?_⟩
    · repeat first | rfl | rw [if_pos (by omega)] | rw [if_neg (by omega)]
    · repeat first | rfl | rw [if_pos (by omega)] | rw [if_neg (by omega)]
  by_cases q16 : n < 8204
  · refine Or.inr ⟨?_, ?_⟩
    · repeat first | rfl | rw [if_pos (by omega)] | rw [if_neg (by omega)]
    · repeat first | rfl | rw [if_pos (by omega)] | rw [if_neg (by omega)]
  by_cases q17 : n < 8206
  · refine Or.inl ⟨?_, ?_⟩
    · repeat first | rfl | rw [if_pos (by omega)] | rw [if_neg (by omega)]
    · repeat first | rfl | rw [if_pos (by omega)] | rw [if_neg (by omega)]
  by_cases q18 : n < 8304
  · refine Or.inr ⟨?_, ?_⟩
    · repeat first | rfl | rw [if_pos (by omega)] | rw [if_neg (by omega)]
    · repeat first | rfl | rw [if_pos (by omega)] | rw [if_neg (by omega)]
  by_cases q19 : n < 8592
  · refine Or.inl ⟨?_, ?_⟩
    · repeat first | rfl | rw [if_pos (by omega)] | rw [if_neg (by omega)]
    · repeat first | rfl | rw [if_pos (by omega)] | rw [if_neg (by omega)]
  by_cases q20 : n < 11264
  · refine Or.inr ⟨?_, ?_⟩
    · repeat first | rfl | rw [if_pos (by omega)] | rw [if_neg (by omega)]
    · repeat first | rfl | rw [if_pos (by omega)] | rw [if_neg (by omega)]
  by_cases q21 : n < 12272
  · refine Or.inl ⟨?_, ?_⟩
    · repeat first | rfl | rw [if_pos (by omega)] | rw [if_neg (by omega)]
    · repeat first | rfl | rw [if_pos (by omega)] | rw [if_neg (by omega)]
  by_cases q22 : n < 12289
  · refine Or.inr ⟨?_, ?_⟩
    · repeat first | rfl | rw [if_pos (by omega)] | rw [if_neg (by omega)]
    · repeat first | rfl | rw [if_pos (by omega)] | rw [if_neg (by omega)]
  by_cases q23 : n < 55296
  · refine Or.inl ⟨?_, ?_⟩
    · repeat first | rfl | rw [if_pos (by omega)] | rw [if_neg (by omega)]
    · repeat first | rfl | rw [if_pos (by omega)] | rw [if_neg (by omega)]
  by_cases q24 : n < 63744
  · refine Or.inr ⟨?_, ?_⟩
    · repeat first | rfl | rw [if_pos (by omega)] | rw [if_neg (by omega)]
    · repeat first | rfl | rw [if_pos (by omega)] | rw [if_neg (by omega)]
  by_cases q25 : n < 64976
  · refine Or.inl ⟨?_, ?_⟩
    · repeat first | rfl | rw [if_pos (by omega)] | rw [if_neg (by omega)]
    · repeat first | rfl | rw [if_pos (by omega)] | rw [if_neg (by omega)]
  by_cases q26 : n < 65008
  · refine Or.inr ⟨?_, ?_⟩
    · repeat first | rfl | rw [if_pos (by omega)] | rw [if_neg (by omega)]
    · repeat first | rfl | rw [if_pos (by omega)] | rw [if_neg (by omega)]
  by_cases q27 : n < 65534
  · refine Or.inl ⟨?_, ?_⟩
    · repeat first | rfl | rw [if_pos (by omega)] | rw [if_neg (by omega)]
    · repeat first | rfl | rw [if_pos (by omega)] | rw [if_neg (by omega)]
  by_cases q28 : n < 65536
  · refine Or.inr ⟨?_, ?_⟩
    · repeat first | rfl | rw [if_pos (by omega)] | rw [if_neg (by omega)]
    · repeat first | rfl | rw [if_pos (by omega)] | rw [if_neg (by omega)]
  by_cases q29 : n < 983040
  · refine Or.inl ⟨?_, ?_⟩
    · repeat first | rfl | rw [if_pos (by omega)] | rw [if_neg (by omega)]
    · repeat first | rfl | rw [if_pos (by omega)] | rw [if_neg (by omega)]
  · refine Or.inr ⟨?_, ?_⟩
    · repeat first | rfl | rw [if_pos (by omega)] | rw [if_neg (by omega)]
    · repeat first | rfl | rw [if_pos (by omega)] | rw [if_neg (by omega)]
def own_Q1 (n0 : Nat) (v : Option Value) (h : Heap) (L : List Loc) : Prop := v = some (.int 1) ∧ Fr n0 L
set_option maxRecDepth 65536 in
set_option maxHeartbeats 40000000 in
theorem own_main_con (l : Launch) (Z : State) (a0 : Array Value) (hw : ∀ d ∈ tables_1, d.before a0 Z = true) (x0 : Int32) (x1 : Int32)  (h0 : Heap) (ws : List Jvm.Cond) :
    own_Con l Z x code maxLocals ret room_1 #[(.int x0), (.int x1)] h0 (own_Q1 h0.size) ws := by
  refine own_con (F := fun m => (mkF m 0 #[.val (.int x0), .val (.int x1), .unset, .unset, .unset, .unset] [])) (own_pn (by first | (simp [plainName, overriddenIn]; done) | decide +kernel)) (fun m => by first | (simp [entryFrame, mkF, argsToLocals, Value.category, maxLocals]; done) | rfl) ?_
  intro p e s m below meth c T X hx hby hml hZ hown hnm hret hlk eT
  show own_Go p e below (own_Out s (own_Q1 h0.size) room_1.cells room_1.slots) (T.setTop (mkF m 0 #[.val (.int x0), .val (.int x1), .unset, .unset, .unset, .unset] []))
  have N0 := Fr.nil h0.size
  refine own_go (fun _ => XS.bipush X.here hx rfl (hb hby at_0)) ?_
  show own_Go p e below _ (T.setTop (mkF m 2 #[.val (.int x0), .val (.int x1), .unset, .unset, .unset, .unset] [(.int (31 : Int32))]))
  obtain ⟨T1, h1, X1, e1, E1, A1, st1⟩ := own_newA X hx hZ (aty := .int) (hw _ (List.mem_of_getElem? (i := 0) rfl)) eT (g := (mkF m 2 #[.val (.int x0), .val (.int x1), .unset, .unset, .unset, .unset] [(.int (31 : Int32))])) rfl (hb hby at_2) rfl 31 31 (by decide) (by decide) (by decide) (by decide) (by decide)
  obtain ⟨a1, q1⟩ : ∃ z, z = h0.size := ⟨_, rfl⟩
  rw [← q1] at A1 st1
  refine own_go st1 ?_
  show own_Go p e below _ (T1.setTop (mkF m 4 #[.val (.int x0), .val (.int x1), .unset, .unset, .unset, .unset] [(.ref a1)]))
  refine own_go (fun _ => XS.dup X1.here hx rfl (hb hby at_4) rfl rfl) ?_
  show own_Go p e below _ (T1.setTop (mkF m 5 #[.val (.int x0), .val (.int x1), .unset, .unset, .unset, .unset] [(.ref a1), (.ref a1)]))
  refine own_go (fun _ => XS.iconst X1.here hx rfl (hb hby at_5)) ?_
  show own_Go p e below _ (T1.setTop (mkF m 6 #[.val (.int x0), .val (.int x1), .unset, .unset, .unset, .unset] [(.int (0 : Int32)), (.ref a1), (.ref a1)]))
  refine own_go (fun _ => XS.iconst X1.here hx rfl (hb hby at_6)) ?_
  show own_Go p e below _ (T1.setTop (mkF m 7 #[.val (.int x0), .val (.int x1), .unset, .unset, .unset, .unset] [(.int (0 : Int32)), (.int (0 : Int32)), (.ref a1), (.ref a1)]))
  obtain ⟨T2, h2, X2, e2, W2, A2, st2⟩ := own_stI X1 hx hZ e1 A1 (g := (mkF m 7 #[.val (.int x0), .val (.int x1), .unset, .unset, .unset, .unset] [(.int (0 : Int32)), (.int (0 : Int32)), (.ref a1), (.ref a1)])) rfl rfl (hb hby at_7) 0 (by decide) (by simp)
  have N2 := Fr.snoc X2 N0 (Nat.le_of_eq q1.symm)
  refine own_go st2 ?_
  show own_Go p e below _ (T2.setTop (mkF m 8 #[.val (.int x0), .val (.int x1), .unset, .unset, .unset, .unset] [(.ref a1)]))
  refine own_go (fun _ => XS.dup X2.here hx rfl (hb hby at_8) rfl rfl) ?_
  show own_Go p e below _ (T2.setTop (mkF m 9 #[.val (.int x0), .val (.int x1), .unset, .unset, .unset, .unset] [(.ref a1), (.ref a1)]))
  refine own_go (fun _ => XS.iconst X2.here hx rfl (hb hby at_9)) ?_
  show own_Go p e below _ (T2.setTop (mkF m 10 #[.val (.int x0), .val (.int x1), .unset, .unset, .unset, .unset] [(.int (1 : Int32)), (.ref a1), (.ref a1)]))
  refine own_go (fun _ => XS.bipush X2.here hx rfl (hb hby at_10)) ?_
  show own_Go p e below _ (T2.setTop (mkF m 12 #[.val (.int x0), .val (.int x1), .unset, .unset, .unset, .unset] [(.int (58 : Int32)), (.int (1 : Int32)), (.ref a1), (.ref a1)]))
  obtain ⟨T3, h3, X3, e3, W3, A3, st3⟩ := own_stI X2 hx hZ e2 A2 (g := (mkF m 12 #[.val (.int x0), .val (.int x1), .unset, .unset, .unset, .unset] [(.int (58 : Int32)), (.int (1 : Int32)), (.ref a1), (.ref a1)])) rfl rfl (hb hby at_12) 1 (by decide) (by simp)
  have N3 := Fr.snoc X3 N2 (Nat.le_of_eq q1.symm)
  refine own_go st3 ?_
  show own_Go p e below _ (T3.setTop (mkF m 13 #[.val (.int x0), .val (.int x1), .unset, .unset, .unset, .unset] [(.ref a1)]))
  refine own_go (fun _ => XS.dup X3.here hx rfl (hb hby at_13) rfl rfl) ?_
  show own_Go p e below _ (T3.setTop (mkF m 14 #[.val (.int x0), .val (.int x1), .unset, .unset, .unset, .unset] [(.ref a1), (.ref a1)]))
  refine own_go (fun _ => XS.iconst X3.here hx rfl (hb hby at_14)) ?_
  show own_Go p e below _ (T3.setTop (mkF m 15 #[.val (.int x0), .val (.int x1), .unset, .unset, .unset, .unset] [(.int (2 : Int32)), (.ref a1), (.ref a1)]))
  refine own_go (fun _ => XS.bipush X3.here hx rfl (hb hby at_15)) ?_
  show own_Go p e below _ (T3.setTop (mkF m 17 #[.val (.int x0), .val (.int x1), .unset, .unset, .unset, .unset] [(.int (65 : Int32)), (.int (2 : Int32)), (.ref a1), (.ref a1)]))
  obtain ⟨T4, h4, X4, e4, W4, A4, st4⟩ := own_stI X3 hx hZ e3 A3 (g := (mkF m 17 #[.val (.int x0), .val (.int x1), .unset, .unset, .unset, .unset] [(.int (65 : Int32)), (.int (2 : Int32)), (.ref a1), (.ref a1)])) rfl rfl (hb hby at_17) 2 (by decide) (by simp)
  have N4 := Fr.snoc X4 N3 (Nat.le_of_eq q1.symm)
  refine own_go st4 ?_
  show own_Go p e below _ (T4.setTop (mkF m 18 #[.val (.int x0), .val (.int x1), .unset, .unset, .unset, .unset] [(.ref a1)]))
  refine own_go (fun _ => XS.dup X4.here hx rfl (hb hby at_18) rfl rfl) ?_
  show own_Go p e below _ (T4.setTop (mkF m 19 #[.val (.int x0), .val (.int x1), .unset, .unset, .unset, .unset] [(.ref a1), (.ref a1)]))
  refine own_go (fun _ => XS.iconst X4.here hx rfl (hb hby at_19)) ?_
  show own_Go p e below _ (T4.setTop (mkF m 20 #[.val (.int x0), .val (.int x1), .unset, .unset, .unset, .unset] [(.int (3 : Int32)), (.ref a1), (.ref a1)]))
  refine own_go (fun _ => XS.bipush X4.here hx rfl (hb hby at_20)) ?_
  show own_Go p e below _ (T4.setTop (mkF m 22 #[.val (.int x0), .val (.int x1), .unset, .unset, .unset, .unset] [(.int (90 : Int32)), (.int (3 : Int32)), (.ref a1), (.ref a1)]))
  obtain ⟨T5, h5, X5, e5, W5, A5, st5⟩ := own_stI X4 hx hZ e4 A4 (g := (mkF m 22 #[.val (.int x0), .val (.int x1), .unset, .unset, .unset, .unset] [(.int (90 : Int32)), (.int (3 : Int32)), (.ref a1), (.ref a1)])) rfl rfl (hb hby at_22) 3 (by decide) (by simp)
  have N5 := Fr.snoc X5 N4 (Nat.le_of_eq q1.symm)
  refine own_go st5 ?_
  show own_Go p e below _ (T5.setTop (mkF m 23 #[.val (.int x0), .val (.int x1), .unset, .unset, .unset, .unset] [(.ref a1)]))
  refine own_go (fun _ => XS.dup X5.here hx rfl (hb hby at_23) rfl rfl) ?_
  show own_Go p e below _ (T5.setTop (mkF m 24 #[.val (.int x0), .val (.int x1), .unset, .unset, .unset, .unset] [(.ref a1), (.ref a1)]))
  refine own_go (fun _ => XS.iconst X5.here hx rfl (hb hby at_24)) ?_
  show own_Go p e below _ (T5.setTop (mkF m 25 #[.val (.int x0), .val (.int x1), .unset, .unset, .unset, .unset] [(.int (4 : Int32)), (.ref a1), (.ref a1)]))
  refine own_go (fun _ => XS.bipush X5.here hx rfl (hb hby at_25)) ?_
  show own_Go p e below _ (T5.setTop (mkF m 27 #[.val (.int x0), .val (.int x1), .unset, .unset, .unset, .unset] [(.int (95 : Int32)), (.int (4 : Int32)), (.ref a1), (.ref a1)]))
  obtain ⟨T6, h6, X6, e6, W6, A6, st6⟩ := own_stI X5 hx hZ e5 A5 (g := (mkF m 27 #[.val (.int x0), .val (.int x1), .unset, .unset, .unset, .unset] [(.int (95 : Int32)), (.int (4 : Int32)), (.ref a1), (.ref a1)])) rfl rfl (hb hby at_27) 4 (by decide) (by simp)
  have N6 := Fr.snoc X6 N5 (Nat.le_of_eq q1.symm)
  refine own_go st6 ?_
  show own_Go p e below _ (T6.setTop (mkF m 28 #[.val (.int x0), .val (.int x1), .unset, .unset, .unset, .unset] [(.ref a1)]))
  refine own_go (fun _ => XS.dup X6.here hx rfl (hb hby at_28) rfl rfl) ?_
  show own_Go p e below _ (T6.setTop (mkF m 29 #[.val (.int x0), .val (.int x1), .unset, .unset, .unset, .unset] [(.ref a1), (.ref a1)]))
  refine own_go (fun _ => XS.iconst X6.here hx rfl (hb hby at_29)) ?_
  show own_Go p e below _ (T6.setTop (mkF m 30 #[.val (.int x0), .val (.int x1), .unset, .unset, .unset, .unset] [(.int (5 : Int32)), (.ref a1), (.ref a1)]))
  refine own_go (fun _ => XS.bipush X6.here hx rfl (hb hby at_30)) ?_
  show own_Go p e below _ (T6.setTop (mkF m 32 #[.val (.int x0), .val (.int x1), .unset, .unset, .unset, .unset] [(.int (97 : Int32)), (.int (5 : Int32)), (.ref a1), (.ref a1)]))
  obtain ⟨T7, h7, X7, e7, W7, A7, st7⟩ := own_stI X6 hx hZ e6 A6 (g := (mkF m 32 #[.val (.int x0), .val (.int x1), .unset, .unset, .unset, .unset] [(.int (97 : Int32)), (.int (5 : Int32)), (.ref a1), (.ref a1)])) rfl rfl (hb hby at_32) 5 (by decide) (by simp)
  have N7 := Fr.snoc X7 N6 (Nat.le_of_eq q1.symm)
  refine own_go st7 ?_
  show own_Go p e below _ (T7.setTop (mkF m 33 #[.val (.int x0), .val (.int x1), .unset, .unset, .unset, .unset] [(.ref a1)]))
  refine own_go (fun _ => XS.dup X7.here hx rfl (hb hby at_33) rfl rfl) ?_
  show own_Go p e below _ (T7.setTop (mkF m 34 #[.val (.int x0), .val (.int x1), .unset, .unset, .unset, .unset] [(.ref a1), (.ref a1)]))
  refine own_go (fun _ => XS.bipush X7.here hx rfl (hb hby at_34)) ?_
  show own_Go p e below _ (T7.setTop (mkF m 36 #[.val (.int x0), .val (.int x1), .unset, .unset, .unset, .unset] [(.int (6 : Int32)), (.ref a1), (.ref a1)]))
  refine own_go (fun _ => XS.bipush X7.here hx rfl (hb hby at_36)) ?_
  show own_Go p e below _ (T7.setTop (mkF m 38 #[.val (.int x0), .val (.int x1), .unset, .unset, .unset, .unset] [(.int (122 : Int32)), (.int (6 : Int32)), (.ref a1), (.ref a1)]))
  obtain ⟨T8, h8, X8, e8, W8, A8, st8⟩ := own_stI X7 hx hZ e7 A7 (g := (mkF m 38 #[.val (.int x0), .val (.int x1), .unset, .unset, .unset, .unset] [(.int (122 : Int32)), (.int (6 : Int32)), (.ref a1), (.ref a1)])) rfl rfl (hb hby at_38) 6 (by decide) (by simp)
  have N8 := Fr.snoc X8 N7 (Nat.le_of_eq q1.symm)
  refine own_go st8 ?_
  show own_Go p e below _ (T8.setTop (mkF m 39 #[.val (.int x0), .val (.int x1), .unset, .unset, .unset, .unset] [(.ref a1)]))
  refine own_go (fun _ => XS.dup X8.here hx rfl (hb hby at_39) rfl rfl) ?_
  show own_Go p e below _ (T8.setTop (mkF m 40 #[.val (.int x0), .val (.int x1), .unset, .unset, .unset, .unset] [(.ref a1), (.ref a1)]))
  refine own_go (fun _ => XS.bipush X8.here hx rfl (hb hby at_40)) ?_
  show own_Go p e below _ (T8.setTop (mkF m 42 #[.val (.int x0), .val (.int x1), .unset, .unset, .unset, .unset] [(.int (7 : Int32)), (.ref a1), (.ref a1)]))
  refine own_go (fun _ => XS.sipush X8.here hx rfl (hb hby at_42)) ?_
  show own_Go p e below _ (T8.setTop (mkF m 45 #[.val (.int x0), .val (.int x1), .unset, .unset, .unset, .unset] [(.int (192 : Int32)), (.int (7 : Int32)), (.ref a1), (.ref a1)]))
  obtain ⟨T9, h9, X9, e9, W9, A9, st9⟩ := own_stI X8 hx hZ e8 A8 (g := (mkF m 45 #[.val (.int x0), .val (.int x1), .unset, .unset, .unset, .unset] [(.int (192 : Int32)), (.int (7 : Int32)), (.ref a1), (.ref a1)])) rfl rfl (hb hby at_45) 7 (by decide) (by simp)
  have N9 := Fr.snoc X9 N8 (Nat.le_of_eq q1.symm)
  refine own_go st9 ?_
  show own_Go p e below _ (T9.setTop (mkF m 46 #[.val (.int x0), .val (.int x1), .unset, .unset, .unset, .unset] [(.ref a1)]))
  refine own_go (fun _ => XS.dup X9.here hx rfl (hb hby at_46) rfl rfl) ?_
  show own_Go p e below _ (T9.setTop (mkF m 47 #[.val (.int x0), .val (.int x1), .unset, .unset, .unset, .unset] [(.ref a1), (.ref a1)]))
  refine own_go (fun _ => XS.bipush X9.here hx rfl (hb hby at_47)) ?_
  show own_Go p e below _ (T9.setTop (mkF m 49 #[.val (.int x0), .val (.int x1), .unset, .unset, .unset, .unset] [(.int (8 : Int32)), (.ref a1), (.ref a1)]))
  refine own_go (fun _ => XS.sipush X9.here hx rfl (hb hby at_49)) ?_
  show own_Go p e below _ (T9.setTop (mkF m 52 #[.val (.int x0), .val (.int x1), .unset, .unset, .unset, .unset] [(.int (214 : Int32)), (.int (8 : Int32)), (.ref a1), (.ref a1)]))
  obtain ⟨T10, h10, X10, e10, W10, A10, st10⟩ := own_stI X9 hx hZ e9 A9 (g := (mkF m 52 #[.val (.int x0), .val (.int x1), .unset, .unset, .unset, .unset] [(.int (214 : Int32)), (.int (8 : Int32)), (.ref a1), (.ref a1)])) rfl rfl (hb hby at_52) 8 (by decide) (by simp)
  have N10 := Fr.snoc X10 N9 (Nat.le_of_eq q1.symm)
  refine own_go st10 ?_
  show own_Go p e below _ (T10.setTop (mkF m 53 #[.val (.int x0), .val (.int x1), .unset, .unset, .unset, .unset] [(.ref a1)]))
  refine own_go (fun _ => XS.dup X10.here hx rfl (hb hby at_53) rfl rfl) ?_
  show own_Go p e below _ (T10.setTop (mkF m 54 #[.val (.int x0), .val (.int x1), .unset, .unset, .unset, .unset] [(.ref a1), (.ref a1)]))
  refine own_go (fun _ => XS.bipush X10.here hx rfl (hb hby at_54)) ?_
  show own_Go p e below _ (T10.setTop (mkF m 56 #[.val (.int x0), .val (.int x1), .unset, .unset, .unset, .unset] [(.int (9 : Int32)), (.ref a1), (.ref a1)]))
  refine own_go (fun _ => XS.sipush X10.here hx rfl (hb hby at_56)) ?_
  show own_Go p e below _ (T10.setTop (mkF m 59 #[.val (.int x0), .val (.int x1), .unset, .unset, .unset, .unset] [(.int (216 : Int32)), (.int (9 : Int32)), (.ref a1), (.ref a1)]))
  obtain ⟨T11, h11, X11, e11, W11, A11, st11⟩ := own_stI X10 hx hZ e10 A10 (g := (mkF m 59 #[.val (.int x0), .val (.int x1), .unset, .unset, .unset, .unset] [(.int (216 : Int32)), (.int (9 : Int32)), (.ref a1), (.ref a1)])) rfl rfl (hb hby at_59) 9 (by decide) (by simp)
  have N11 := Fr.snoc X11 N10 (Nat.le_of_eq q1.symm)
  refine own_go st11 ?_
  show own_Go p e below _ (T11.setTop (mkF m 60 #[.val (.int x0), .val (.int x1), .unset, .unset, .unset, .unset] [(.ref a1)]))
  refine own_go (fun _ => XS.dup X11.here hx rfl (hb hby at_60) rfl rfl) ?_
  show own_Go p e below _ (T11.setTop (mkF m 61 #[.val (.int x0), .val (.int x1), .unset, .unset, .unset, .unset] [(.ref a1), (.ref a1)]))
  refine own_go (fun _ => XS.bipush X11.here hx rfl (hb hby at_61)) ?_
  show own_Go p e below _ (T11.setTop (mkF m 63 #[.val (.int x0), .val (.int x1), .unset, .unset, .unset, .unset] [(.int (10 : Int32)), (.ref a1), (.ref a1)]))
  refine own_go (fun _ => XS.sipush X11.here hx rfl (hb hby at_63)) ?_
  show own_Go p e below _ (T11.setTop (mkF m 66 #[.val (.int x0), .val (.int x1), .unset, .unset, .unset, .unset] [(.int (246 : Int32)), (.int (10 : Int32)), (.ref a1), (.ref a1)]))
  obtain ⟨T12, h12, X12, e12, W12, A12, st12⟩ := own_stI X11 hx hZ e11 A11 (g := (mkF m 66 #[.val (.int x0), .val (.int x1), .unset, .unset, .unset, .unset] [(.int (246 : Int32)), (.int (10 : Int32)), (.ref a1), (.ref a1)])) rfl rfl (hb hby at_66) 10 (by decide) (by simp)
  have N12 := Fr.snoc X12 N11 (Nat.le_of_eq q1.symm)
  refine own_go st12 ?_
  show own_Go p e below _ (T12.setTop (mkF m 67 #[.val (.int x0), .val (.int x1), .unset, .unset, .unset, .unset] [(.ref a1)]))
  refine own_go (fun _ => XS.dup X12.here hx rfl (hb hby at_67) rfl rfl) ?_
  show own_Go p e below _ (T12.setTop (mkF m 68 #[.val (.int x0), .val (.int x1), .unset, .unset, .unset, .unset] [(.ref a1), (.ref a1)]))
  refine own_go (fun _ => XS.bipush X12.here hx rfl (hb hby at_68)) ?_
  show own_Go p e below _ (T12.setTop (mkF m 70 #[.val (.int x0), .val (.int x1), .unset, .unset, .unset, .unset] [(.int (11 : Int32)), (.ref a1), (.ref a1)]))
  refine own_go (fun _ => XS.sipush X12.here hx rfl (hb hby at_70)) ?_
  show own_Go p e below _ (T12.setTop (mkF m 73 #[.val (.int x0), .val (.int x1), .unset, .unset, .unset, .unset] [(.int (248 : Int32)), (.int (11 : Int32)), (.ref a1), (.ref a1)]))
  obtain ⟨T13, h13, X13, e13, W13, A13, st13⟩ := own_stI X12 hx hZ e12 A12 (g := (mkF m 73 #[.val (.int x0), .val (.int x1), .unset, .unset, .unset, .unset] [(.int (248 : Int32)), (.int (11 : Int32)), (.ref a1), (.ref a1)])) rfl rfl (hb hby at_73) 11 (by decide) (by simp)
  have N13 := Fr.snoc X13 N12 (Nat.le_of_eq q1.symm)
  refine own_go st13 ?_
  show own_Go p e below _ (T13.setTop (mkF m 74 #[.val (.int x0), .val (.int x1), .unset, .unset, .unset, .unset] [(.ref a1)]))
  refine own_go (fun _ => XS.dup X13.here hx rfl (hb hby at_74) rfl rfl) ?_
  show own_Go p e below _ (T13.setTop (mkF m 75 #[.val (.int x0), .val (.int x1), .unset, .unset, .unset, .unset] [(.ref a1), (.ref a1)]))
  refine own_go (fun _ => XS.bipush X13.here hx rfl (hb hby at_75)) ?_
  show own_Go p e below _ (T13.setTop (mkF m 77 #[.val (.int x0), .val (.int x1), .unset, .unset, .unset, .unset] [(.int (12 : Int32)), (.ref a1), (.ref a1)]))
  refine own_go (fun _ => XS.sipush X13.here hx rfl (hb hby at_77)) ?_
  show own_Go p e below _ (T13.setTop (mkF m 80 #[.val (.int x0), .val (.int x1), .unset, .unset, .unset, .unset] [(.int (767 : Int32)), (.int (12 : Int32)), (.ref a1), (.ref a1)]))
  obtain ⟨T14, h14, X14, e14, W14, A14, st14⟩ := own_stI X13 hx hZ e13 A13 (g := (mkF m 80 #[.val (.int x0), .val (.int x1), .unset, .unset, .unset, .unset] [(.int (767 : Int32)), (.int (12 : Int32)), (.ref a1), (.ref a1)])) rfl rfl (hb hby at_80) 12 (by decide) (by simp)
  have N14 := Fr.snoc X14 N13 (Nat.le_of_eq q1.symm)
  refine own_go st14 ?_
  show own_Go p e below _ (T14.setTop (mkF m 81 #[.val (.int x0), .val (.int x1), .unset, .unset, .unset, .unset] [(.ref a1)]))
  refine own_go (fun _ => XS.dup X14.here hx rfl (hb hby at_81) rfl rfl) ?_
  show own_Go p e below _ (T14.setTop (mkF m 82 #[.val (.int x0), .val (.int x1), .unset, .unset, .unset, .unset] [(.ref a1), (.ref a1)]))
  refine own_go (fun _ => XS.bipush X14.here hx rfl (hb hby at_82)) ?_
  show own_Go p e below _ (T14.setTop (mkF m 84 #[.val (.int x0), .val (.int x1), .unset, .unset, .unset, .unset] [(.int (13 : Int32)), (.ref a1), (.ref a1)]))
  refine own_go (fun _ => XS.sipush X14.here hx rfl (hb hby at_84)) ?_
  show own_Go p e below _ (T14.setTop (mkF m 87 #[.val (.int x0), .val (.int x1), .unset, .unset, .unset, .unset] [(.int (880 : Int32)), (.int (13 : Int32)), (.ref a1), (.ref a1)]))
  obtain ⟨T15, h15, X15, e15, W15, A15, st15⟩ := own_stI X14 hx hZ e14 A14 (g := (mkF m 87 #[.val (.int x0), .val (.int x1), .unset, .unset, .unset, .unset] [(.int (880 : Int32)), (.int (13 : Int32)), (.ref a1), (.ref a1)])) rfl rfl (hb hby at_87) 13 (by decide) (by simp)
  have N15 := Fr.snoc X15 N14 (Nat.le_of_eq q1.symm)
  refine own_go st15 ?_
  show own_Go p e below _ (T15.setTop (mkF m 88 #[.val (.int x0), .val (.int x1), .unset, .unset, .unset, .unset] [(.ref a1)]))
  refine own_go (fun _ => XS.dup X15.here hx rfl (hb hby at_88) rfl rfl) ?_
  show own_Go p e below _ (T15.setTop (mkF m 89 #[.val (.int x0), .val (.int x1), .unset, .unset, .unset, .unset] [(.ref a1), (.ref a1)]))
  refine own_go (fun _ => XS.bipush X15.here hx rfl (hb hby at_89)) ?_
  show own_Go p e below _ (T15.setTop (mkF m 91 #[.val (.int x0), .val (.int x1), .unset, .unset, .unset, .unset] [(.int (14 : Int32)), (.ref a1), (.ref a1)]))
  refine own_go (fun _ => XS.sipush X15.here hx rfl (hb hby at_91)) ?_
  show own_Go p e below _ (T15.setTop (mkF m 94 #[.val (.int x0), .val (.int x1), .unset, .unset, .unset, .unset] [(.int (893 : Int32)), (.int (14 : Int32)), (.ref a1), (.ref a1)]))
  obtain ⟨T16, h16, X16, e16, W16, A16, st16⟩ := own_stI X15 hx hZ e15 A15 (g := (mkF m 94 #[.val (.int x0), .val (.int x1), .unset, .unset, .unset, .unset] [(.int (893 : Int32)), (.int (14 : Int32)), (.ref a1), (.ref a1)])) rfl rfl (hb hby at_94) 14 (by decide) (by simp)
  have N16 := Fr.snoc X16 N15 (Nat.le_of_eq q1.symm)
  refine own_go st16 ?_
  show own_Go p e below _ (T16.setTop (mkF m 95 #[.val (.int x0), .val (.int x1), .unset, .unset, .unset, .unset] [(.ref a1)]))
  refine own_go (fun _ => XS.dup X16.here hx rfl (hb hby at_95) rfl rfl) ?_
  show own_Go p e below _ (T16.setTop (mkF m 96 #[.val (.int x0), .val (.int x1), .unset, .unset, .unset, .unset] [(.ref a1), (.ref a1)]))
  refine own_go (fun _ => XS.bipush X16.here hx rfl (hb hby at_96)) ?_
  show own_Go p e below _ (T16.setTop (mkF m 98 #[.val (.int x0), .val (.int x1), .unset, .unset, .unset, .unset] [(.int (15 : Int32)), (.ref a1), (.ref a1)]))
  refine own_go (fun _ => XS.sipush X16.here hx rfl (hb hby at_98)) ?_
  show own_Go p e below _ (T16.setTop (mkF m 101 #[.val (.int x0), .val (.int x1), .unset, .unset, .unset, .unset] [(.int (895 : Int32)), (.int (15 : Int32)), (.ref a1), (.ref a1)]))
  obtain ⟨T17, h17, X17, e17, W17, A17, st17⟩ := own_stI X16 hx hZ e16 A16 (g := (mkF m 101 #[.val (.int x0), .val (.int x1), .unset, .unset, .unset, .unset] [(.int (895 : Int32)), (.int (15 : Int32)), (.ref a1), (.ref a1)])) rfl rfl (hb hby at_101) 15 (by decide) (by simp)
  have N17 := Fr.snoc X17 N16 (Nat.le_of_eq q1.symm)
  refine own_go st17 ?_
  show own_Go p e below _ (T17.setTop (mkF m 102 #[.val (.int x0), .val (.int x1), .unset, .unset, .unset, .unset] [(.ref a1)]))
  refine own_go (fun _ => XS.dup X17.here hx rfl (hb hby at_102) rfl rfl) ?_
  show own_Go p e below _ (T17.setTop (mkF m 103 #[.val (.int x0), .val (.int x1), .unset, .unset, .unset, .unset] [(.ref a1), (.ref a1)]))
  refine own_go (fun _ => XS.bipush X17.here hx rfl (hb hby at_103)) ?_
  show own_Go p e below _ (T17.setTop (mkF m 105 #[.val (.int x0), .val (.int x1), .unset, .unset, .unset, .unset] [(.int (16 : Int32)), (.ref a1), (.ref a1)]))
  refine own_go (fun _ => XS.sipush X17.here hx rfl (hb hby at_105)) ?_
  show own_Go p e below _ (T17.setTop (mkF m 108 #[.val (.int x0), .val (.int x1), .unset, .unset, .unset, .unset] [(.int (8191 : Int32)), (.int (16 : Int32)), (.ref a1), (.ref a1)]))
  obtain ⟨T18, h18, X18, e18, W18, A18, st18⟩ := own_stI X17 hx hZ e17 A17 (g := (mkF m 108 #[.val (.int x0), .val (.int x1), .unset, .unset, .unset, .unset] [(.int (8191 : Int32)), (.int (16 : Int32)), (.ref a1), (.ref a1)])) rfl rfl (hb hby at_108) 16 (by decide) (by simp)
  have N18 := Fr.snoc X18 N17 (Nat.le_of_eq q1.symm)
  refine own_go st18 ?_
  show own_Go p e below _ (T18.setTop (mkF m 109 #[.val (.int x0), .val (.int x1), .unset, .unset, .unset, .unset] [(.ref a1)]))
  refine own_go (fun _ => XS.dup X18.here hx rfl (hb hby at_109) rfl rfl) ?_
  show own_Go p e below _ (T18.setTop (mkF m 110 #[.val (.int x0), .val (.int x1), .unset, .unset, .unset, .unset] [(.ref a1), (.ref a1)]))
  refine own_go (fun _ => XS.bipush X18.here hx rfl (hb hby at_110)) ?_
  show own_Go p e below _ (T18.setTop (mkF m 112 #[.val (.int x0), .val (.int x1), .unset, .unset, .unset, .unset] [(.int (17 : Int32)), (.ref a1), (.ref a1)]))
  refine own_go (fun _ => XS.sipush X18.here hx rfl (hb hby at_112)) ?_
  show own_Go p e below _ (T18.setTop (mkF m 115 #[.val (.int x0), .val (.int x1), .unset, .unset, .unset, .unset] [(.int (8204 : Int32)), (.int (17 : Int32)), (.ref a1), (.ref a1)]))
  obtain ⟨T19, h19, X19, e19, W19, A19, st19⟩ := own_stI X18 hx hZ e18 A18 (g := (mkF m 115 #[.val (.int x0), .val (.int x1), .unset, .unset, .unset, .unset] [(.int (8204 : Int32)), (.int (17 : Int32)), (.ref a1), (.ref a1)])) rfl rfl (hb hby at_115) 17 (by decide) (by simp)
  have N19 := Fr.snoc X19 N18 (Nat.le_of_eq q1.symm)
  refine own_go st19 ?_
  show own_Go p e below _ (T19.setTop (mkF m 116 #[.val (.int x0), .val (.int x1), .unset, .unset, .unset, .unset] [(.ref a1)]))
  refine own_go (fun _ => XS.dup X19.here hx rfl (hb hby at_116) rfl rfl) ?_
  show own_Go p e below _ (T19.setTop (mkF m 117 #[.val (.int x0), .val (.int x1), .unset, .unset, .unset, .unset] [(.ref a1), (.ref a1)]))
  refine own_go (fun _ => XS.bipush X19.here hx rfl (hb hby at_117)) ?_
  show own_Go p e below _ (T19.setTop (mkF m 119 #[.val (.int x0), .val (.int x1), .unset, .unset, .unset, .unset] [(.int (18 : Int32)), (.ref a1), (.ref a1)]))
  refine own_go (fun _ => XS.sipush X19.here hx rfl (hb hby at_119)) ?_
  show own_Go p e below _ (T19.setTop (mkF m 122 #[.val (.int x0), .val (.int x1), .unset, .unset, .unset, .unset] [(.int (8205 : Int32)), (.int (18 : Int32)), (.ref a1), (.ref a1)]))
  obtain ⟨T20, h20, X20, e20, W20, A20, st20⟩ := own_stI X19 hx hZ e19 A19 (g := (mkF m 122 #[.val (.int x0), .val (.int x1), .unset, .unset, .unset, .unset] [(.int (8205 : Int32)), (.int (18 : Int32)), (.ref a1), (.ref a1)])) rfl rfl (hb hby at_122) 18 (by decide) (by simp)
  have N20 := Fr.snoc X20 N19 (Nat.le_of_eq q1.symm)
  refine own_go st20 ?_
  show own_Go p e below _ (T20.setTop (mkF m 123 #[.val (.int x0), .val (.int x1), .unset, .unset, .unset, .unset] [(.ref a1)]))
  refine own_go (fun _ => XS.dup X20.here hx rfl (hb hby at_123) rfl rfl) ?_
  show own_Go p e below _ (T20.setTop (mkF m 124 #[.val (.int x0), .val (.int x1), .unset, .unset, .unset, .unset] [(.ref a1), (.ref a1)]))
  refine own_go (fun _ => XS.bipush X20.here hx rfl (hb hby at_124)) ?_
  show own_Go p e below _ (T20.setTop (mkF m 126 #[.val (.int x0), .val (.int x1), .unset, .unset, .unset, .unset] [(.int (19 : Int32)), (.ref a1), (.ref a1)]))
  refine own_go (fun _ => XS.sipush X20.here hx rfl (hb hby at_126)) ?_
  show own_Go p e below _ (T20.setTop (mkF m 129 #[.val (.int x0), .val (.int x1), .unset, .unset, .unset, .unset] [(.int (8304 : Int32)), (.int (19 : Int32)), (.ref a1), (.ref a1)]))
  obtain ⟨T21, h21, X21, e21, W21, A21, st21⟩ := own_stI X20 hx hZ e20 A20 (g := (mkF m 129 #[.val (.int x0), .val (.int x1), .unset, .unset, .unset, .unset] [(.int (8304 : Int32)), (.int (19 : Int32)), (.ref a1), (.ref a1)])) rfl rfl (hb hby at_129) 19 (by decide) (by simp)
  have N21 := Fr.snoc X21 N20 (Nat.le_of_eq q1.symm)
  refine own_go st21 ?_
  show own_Go p e below _ (T21.setTop (mkF m 130 #[.val (.int x0), .val (.int x1), .unset, .unset, .unset, .unset] [(.ref a1)]))
  refine own_go (fun _ => XS.dup X21.here hx rfl (hb hby at_130) rfl rfl) ?_
  show own_Go p e below _ (T21.setTop (mkF m 131 #[.val (.int x0), .val (.int x1), .unset, .unset, .unset, .unset] [(.ref a1), (.ref a1)]))
  refine own_go (fun _ => XS.bipush X21.here hx rfl (hb hby at_131)) ?_
  show own_Go p e below _ (T21.setTop (mkF m 133 #[.val (.int x0), .val (.int x1), .unset, .unset, .unset, .unset] [(.int (20 : Int32)), (.ref a1), (.ref a1)]))
  refine own_go (fun _ => XS.sipush X21.here hx rfl (hb hby at_133)) ?_
  show own_Go p e below _ (T21.setTop (mkF m 136 #[.val (.int x0), .val (.int x1), .unset, .unset, .unset, .unset] [(.int (8591 : Int32)), (.int (20 : Int32)), (.ref a1), (.ref a1)]))
  obtain ⟨T22, h22, X22, e22, W22, A22, st22⟩ := own_stI X21 hx hZ e21 A21 (g := (mkF m 136 #[.val (.int x0), .val (.int x1), .unset, .unset, .unset, .unset] [(.int (8591 : Int32)), (.int (20 : Int32)), (.ref a1), (.ref a1)])) rfl rfl (hb hby at_136) 20 (by decide) (by simp)
  have N22 := Fr.snoc X22 N21 (Nat.le_of_eq q1.symm)
  refine own_go st22 ?_
  show own_Go p e below _ (T22.setTop (mkF m 137 #[.val (.int x0), .val (.int x1), .unset, .unset, .unset, .unset] [(.ref a1)]))
  refine own_go (fun _ => XS.dup X22.here hx rfl (hb hby at_137) rfl rfl) ?_
  show own_Go p e below _ (T22.setTop (mkF m 138 #[.val (.int x0), .val (.int x1), .unset, .unset, .unset, .unset] [(.ref a1), (.ref a1)]))
  refine own_go (fun _ => XS.bipush X22.here hx rfl (hb hby at_138)) ?_
  show own_Go p e below _ (T22.setTop (mkF m 140 #[.val (.int x0), .val (.int x1), .unset, .unset, .unset, .unset] [(.int (21 : Int32)), (.ref a1), (.ref a1)]))
  refine own_go (fun _ => XS.sipush X22.here hx rfl (hb hby at_140)) ?_
  show own_Go p e below _ (T22.setTop (mkF m 143 #[.val (.int x0), .val (.int x1), .unset, .unset, .unset, .unset] [(.int (11264 : Int32)), (.int (21 : Int32)), (.ref a1), (.ref a1)]))
  obtain ⟨T23, h23, X23, e23, W23, A23, st23⟩ := own_stI X22 hx hZ e22 A22 (g := (mkF m 143 #[.val (.int x0), .val (.int x1), .unset, .unset, .unset, .unset] [(.int (11264 : Int32)), (.int (21 : Int32)), (.ref a1), (.ref a1)])) rfl rfl (hb hby at_143) 21 (by decide) (by simp)
  have N23 := Fr.snoc X23 N22 (Nat.le_of_eq q1.symm)
  refine own_go st23 ?_
  show own_Go p e below _ (T23.setTop (mkF m 144 #[.val (.int x0), .val (.int x1), .unset, .unset, .unset, .unset] [(.ref a1)]))
  refine own_go (fun _ => XS.dup X23.here hx rfl (hb hby at_144) rfl rfl) ?_
  show own_Go p e below _ (T23.setTop (mkF m 145 #[.val (.int x0), .val (.int x1), .unset, .unset, .unset, .unset] [(.ref a1), (.ref a1)]))
  refine own_go (fun _ => XS.bipush X23.here hx rfl (hb hby at_145)) ?_
  show own_Go p e below _ (T23.setTop (mkF m 147 #[.val (.int x0), .val (.int x1), .unset, .unset, .unset, .unset] [(.int (22 : Int32)), (.ref a1), (.ref a1)]))
  refine own_go (fun _ => XS.sipush X23.here hx rfl (hb hby at_147)) ?_
  show own_Go p e below _ (T23.setTop (mkF m 150 #[.val (.int x0), .val (.int x1), .unset, .unset, .unset, .unset] [(.int (12271 : Int32)), (.int (22 : Int32)), (.ref a1), (.ref a1)]))
  obtain ⟨T24, h24, X24, e24, W24, A24, st24⟩ := own_stI X23 hx hZ e23 A23 (g := (mkF m 150 #[.val (.int x0), .val (.int x1), .unset, .unset, .unset, .unset] [(.int (12271 : Int32)), (.int (22 : Int32)), (.ref a1), (.ref a1)])) rfl rfl (hb hby at_150) 22 (by decide) (by simp)
  have N24 := Fr.snoc X24 N23 (Nat.le_of_eq q1.symm)
  refine own_go st24 ?_
  show own_Go p e below _ (T24.setTop (mkF m 151 #[.val (.int x0), .val (.int x1), .unset, .unset, .unset, .unset] [(.ref a1)]))
  refine own_go (fun _ => XS.dup X24.here hx rfl (hb hby at_151) rfl rfl) ?_
  show own_Go p e below _ (T24.setTop (mkF m 152 #[.val (.int x0), .val (.int x1), .unset, .unset, .unset, .unset] [(.ref a1), (.ref a1)]))
  refine own_go (fun _ => XS.bipush X24.here hx rfl (hb hby at_152)) ?_
  show own_Go p e below _ (T24.setTop (mkF m 154 #[.val (.int x0), .val (.int x1), .unset, .unset, .unset, .unset] [(.int (23 : Int32)), (.ref a1), (.ref a1)]))
  refine own_go (fun _ => XS.sipush X24.here hx rfl (hb hby at_154)) ?_
  show own_Go p e below _ (T24.setTop (mkF m 157 #[.val (.int x0), .val (.int x1), .unset, .unset, .unset, .unset] [(.int (12289 : Int32)), (.int (23 : Int32)), (.ref a1), (.ref a1)]))
  obtain ⟨T25, h25, X25, e25, W25, A25, st25⟩ := own_stI X24 hx hZ e24 A24 (g := (mkF m 157 #[.val (.int x0), .val (.int x1), .unset, .unset, .unset, .unset] [(.int (12289 : Int32)), (.int (23 : Int32)), (.ref a1), (.ref a1)])) rfl rfl (hb hby at_157) 23 (by decide) (by simp)
  have N25 := Fr.snoc X25 N24 (Nat.le_of_eq q1.symm)
  refine own_go st25 ?_
  show own_Go p e below _ (T25.setTop (mkF m 158 #[.val (.int x0), .val (.int x1), .unset, .unset, .unset, .unset] [(.ref a1)]))
  refine own_go (fun _ => XS.dup X25.here hx rfl (hb hby at_158) rfl rfl) ?_
  show own_Go p e below _ (T25.setTop (mkF m 159 #[.val (.int x0), .val (.int x1), .unset, .unset, .unset, .unset] [(.ref a1), (.ref a1)]))
  refine own_go (fun _ => XS.bipush X25.here hx rfl (hb hby at_159)) ?_
  show own_Go p e below _ (T25.setTop (mkF m 161 #[.val (.int x0), .val (.int x1), .unset, .unset, .unset, .unset] [(.int (24 : Int32)), (.ref a1), (.ref a1)]))
  refine own_go (X25.ldcInt hx hown (mvT hZ (hw _ (List.mem_of_getElem? (i := 1) rfl))) (g := (mkF m 161 #[.val (.int x0), .val (.int x1), .unset, .unset, .unset, .unset] [(.int (24 : Int32)), (.ref a1), (.ref a1)])) rfl (hb hby at_161)) ?_
  show own_Go p e below _ (T25.setTop (mkF m 163 #[.val (.int x0), .val (.int x1), .unset, .unset, .unset, .unset] [(.int (55295 : Int32)), (.int (24 : Int32)), (.ref a1), (.ref a1)]))
  obtain ⟨T26, h26, X26, e26, W26, A26, st26⟩ := own_stI X25 hx hZ e25 A25 (g := (mkF m 163 #[.val (.int x0), .val (.int x1), .unset, .unset, .unset, .unset] [(.int (55295 : Int32)), (.int (24 : Int32)), (.ref a1), (.ref a1)])) rfl rfl (hb hby at_163) 24 (by decide) (by simp)
  have N26 := Fr.snoc X26 N25 (Nat.le_of_eq q1.symm)
  refine own_go st26 ?_
  show own_Go p e below _ (T26.setTop (mkF m 164 #[.val (.int x0), .val (.int x1), .unset, .unset, .unset, .unset] [(.ref a1)]))
  refine own_go (fun _ => XS.dup X26.here hx rfl (hb hby at_164) rfl rfl) ?_
  show own_Go p e below _ (T26.setTop (mkF m 165 #[.val (.int x0), .val (.int x1), .unset, .unset, .unset, .unset] [(.ref a1), (.ref a1)]))
  refine own_go (fun _ => XS.bipush X26.here hx rfl (hb hby at_165)) ?_
  show own_Go p e below _ (T26.setTop (mkF m 167 #[.val (.int x0), .val (.int x1), .unset, .unset, .unset, .unset] [(.int (25 : Int32)), (.ref a1), (.ref a1)]))
  refine own_go (X26.ldcInt hx hown (mvT hZ (hw _ (List.mem_of_getElem? (i := 2) rfl))) (g := (mkF m 167 #[.val (.int x0), .val (.int x1), .unset, .unset, .unset, .unset] [(.int (25 : Int32)), (.ref a1), (.ref a1)])) rfl (hb hby at_167)) ?_
  show own_Go p e below _ (T26.setTop (mkF m 169 #[.val (.int x0), .val (.int x1), .unset, .unset, .unset, .unset] [(.int (63744 : Int32)), (.int (25 : Int32)), (.ref a1), (.ref a1)]))
  obtain ⟨T27, h27, X27, e27, W27, A27, st27⟩ := own_stI X26 hx hZ e26 A26 (g := (mkF m 169 #[.val (.int x0), .val (.int x1), .unset, .unset, .unset, .unset] [(.int (63744 : Int32)), (.int (25 : Int32)), (.ref a1), (.ref a1)])) rfl rfl (hb hby at_169) 25 (by decide) (by simp)
  have N27 := Fr.snoc X27 N26 (Nat.le_of_eq q1.symm)
  refine own_go st27 ?_
  show own_Go p e below _ (T27.setTop (mkF m 170 #[.val (.int x0), .val (.int x1), .unset, .unset, .unset, .unset] [(.ref a1)]))
  refine own_go (fun _ => XS.dup X27.here hx rfl (hb hby at_170) rfl rfl) ?_
  show own_Go p e below _ (T27.setTop (mkF m 171 #[.val (.int x0), .val (.int x1), .unset, .unset, .unset, .unset] [(.ref a1), (.ref a1)]))
  refine own_go (fun _ => XS.bipush X27.here hx rfl (hb hby at_171)) ?_
  show own_Go p e below _ (T27.setTop (mkF m 173 #[.val (.int x0), .val (.int x1), .unset, .unset, .unset, .unset] [(.int (26 : Int32)), (.ref a1), (.ref a1)]))
  refine own_go (X27.ldcInt hx hown (mvT hZ (hw _ (List.mem_of_getElem? (i := 3) rfl))) (g := (mkF m 173 #[.val (.int x0), .val (.int x1), .unset, .unset, .unset, .unset] [(.int (26 : Int32)), (.ref a1), (.ref a1)])) rfl (hb hby at_173)) ?_
  show own_Go p e below _ (T27.setTop (mkF m 175 #[.val (.int x0), .val (.int x1), .unset, .unset, .unset, .unset] [(.int (64975 : Int32)), (.int (26 : Int32)), (.ref a1), (.ref a1)]))
  obtain ⟨T28, h28, X28, e28, W28, A28, st28⟩ := own_stI X27 hx hZ e27 A27 (g := (mkF m 175 #[.val (.int x0), .val (.int x1), .unset, .unset, .unset, .unset] [(.int (64975 : Int32)), (.int (26 : Int32)), (.ref a1), (.ref a1)])) rfl rfl (hb hby at_175) 26 (by decide) (by simp)
  have N28 := Fr.snoc X28 N27 (Nat.le_of_eq q1.symm)
  refine own_go st28 ?_
  show own_Go p e below _ (T28.setTop (mkF m 176 #[.val (.int x0), .val (.int x1), .unset, .unset, .unset, .unset] [(.ref a1)]))
  refine own_go (fun _ => XS.dup X28.here hx rfl (hb hby at_176) rfl rfl) ?_
  show own_Go p e below _ (T28.setTop (mkF m 177 #[.val (.int x0), .val (.int x1), .unset, .unset, .unset, .unset] [(.ref a1), (.ref a1)]))
  refine own_go (fun _ => XS.bipush X28.here hx rfl (hb hby at_177)) ?_
  show own_Go p e below _ (T28.setTop (mkF m 179 #[.val (.int x0), .val (.int x1), .unset, .unset, .unset, .unset] [(.int (27 : Int32)), (.ref a1), (.ref a1)]))
  refine own_go (X28.ldcInt hx hown (mvT hZ (hw _ (List.mem_of_getElem? (i := 4) rfl))) (g := (mkF m 179 #[.val (.int x0), .val (.int x1), .unset, .unset, .unset, .unset] [(.int (27 : Int32)), (.ref a1), (.ref a1)])) rfl (hb hby at_179)) ?_
  show own_Go p e below _ (T28.setTop (mkF m 181 #[.val (.int x0), .val (.int x1), .unset, .unset, .unset, .unset] [(.int (65008 : Int32)), (.int (27 : Int32)), (.ref a1), (.ref a1)]))
  obtain ⟨T29, h29, X29, e29, W29, A29, st29⟩ := own_stI X28 hx hZ e28 A28 (g := (mkF m 181 #[.val (.int x0), .val (.int x1), .unset, .unset, .unset, .unset] [(.int (65008 : Int32)), (.int (27 : Int32)), (.ref a1), (.ref a1)])) rfl rfl (hb hby at_181) 27 (by decide) (by simp)
  have N29 := Fr.snoc X29 N28 (Nat.le_of_eq q1.symm)
  refine own_go st29 ?_
  show own_Go p e below _ (T29.setTop (mkF m 182 #[.val (.int x0), .val (.int x1), .unset, .unset, .unset, .unset] [(.ref a1)]))
  refine own_go (fun _ => XS.dup X29.here hx rfl (hb hby at_182) rfl rfl) ?_
  show own_Go p e below _ (T29.setTop (mkF m 183 #[.val (.int x0), .val (.int x1), .unset, .unset, .unset, .unset] [(.ref a1), (.ref a1)]))
  refine own_go (fun _ => XS.bipush X29.here hx rfl (hb hby at_183)) ?_
  show own_Go p e below _ (T29.setTop (mkF m 185 #[.val (.int x0), .val (.int x1), .unset, .unset, .unset, .unset] [(.int (28 : Int32)), (.ref a1), (.ref a1)]))
  refine own_go (X29.ldcInt hx hown (mvT hZ (hw _ (List.mem_of_getElem? (i := 5) rfl))) (g := (mkF m 185 #[.val (.int x0), .val (.int x1), .unset, .unset, .unset, .unset] [(.int (28 : Int32)), (.ref a1), (.ref a1)])) rfl (hb hby at_185)) ?_
  show own_Go p e below _ (T29.setTop (mkF m 187 #[.val (.int x0), .val (.int x1), .unset, .unset, .unset, .unset] [(.int (65533 : Int32)), (.int (28 : Int32)), (.ref a1), (.ref a1)]))
  obtain ⟨T30, h30, X30, e30, W30, A30, st30⟩ := own_stI X29 hx hZ e29 A29 (g := (mkF m 187 #[.val (.int x0), .val (.int x1), .unset, .unset, .unset, .unset] [(.int (65533 : Int32)), (.int (28 : Int32)), (.ref a1), (.ref a1)])) rfl rfl (hb hby at_187) 28 (by decide) (by simp)
  have N30 := Fr.snoc X30 N29 (Nat.le_of_eq q1.symm)
  refine own_go st30 ?_
  show own_Go p e below _ (T30.setTop (mkF m 188 #[.val (.int x0), .val (.int x1), .unset, .unset, .unset, .unset] [(.ref a1)]))
  refine own_go (fun _ => XS.dup X30.here hx rfl (hb hby at_188) rfl rfl) ?_
  show own_Go p e below _ (T30.setTop (mkF m 189 #[.val (.int x0), .val (.int x1), .unset, .unset, .unset, .unset] [(.ref a1), (.ref a1)]))
  refine own_go (fun _ => XS.bipush X30.here hx rfl (hb hby at_189)) ?_
  show own_Go p e below _ (T30.setTop (mkF m 191 #[.val (.int x0), .val (.int x1), .unset, .unset, .unset, .unset] [(.int (29 : Int32)), (.ref a1), (.ref a1)]))
  refine own_go (X30.ldcInt hx hown (mvT hZ (hw _ (List.mem_of_getElem? (i := 6) rfl))) (g := (mkF m 191 #[.val (.int x0), .val (.int x1), .unset, .unset, .unset, .unset] [(.int (29 : Int32)), (.ref a1), (.ref a1)])) rfl (hb hby at_191)) ?_
  show own_Go p e below _ (T30.setTop (mkF m 193 #[.val (.int x0), .val (.int x1), .unset, .unset, .unset, .unset] [(.int (65536 : Int32)), (.int (29 : Int32)), (.ref a1), (.ref a1)]))
  obtain ⟨T31, h31, X31, e31, W31, A31, st31⟩ := own_stI X30 hx hZ e30 A30 (g := (mkF m 193 #[.val (.int x0), .val (.int x1), .unset, .unset, .unset, .unset] [(.int (65536 : Int32)), (.int (29 : Int32)), (.ref a1), (.ref a1)])) rfl rfl (hb hby at_193) 29 (by decide) (by simp)
  have N31 := Fr.snoc X31 N30 (Nat.le_of_eq q1.symm)
  refine own_go st31 ?_
  show own_Go p e below _ (T31.setTop (mkF m 194 #[.val (.int x0), .val (.int x1), .unset, .unset, .unset, .unset] [(.ref a1)]))
  refine own_go (fun _ => XS.dup X31.here hx rfl (hb hby at_194) rfl rfl) ?_
  show own_Go p e below _ (T31.setTop (mkF m 195 #[.val (.int x0), .val (.int x1), .unset, .unset, .unset, .unset] [(.ref a1), (.ref a1)]))
  refine own_go (fun _ => XS.bipush X31.here hx rfl (hb hby at_195)) ?_
  show own_Go p e below _ (T31.setTop (mkF m 197 #[.val (.int x0), .val (.int x1), .unset, .unset, .unset, .unset] [(.int (30 : Int32)), (.ref a1), (.ref a1)]))
  refine own_go (X31.ldcInt hx hown (mvT hZ (hw _ (List.mem_of_getElem? (i := 7) rfl))) (g := (mkF m 197 #[.val (.int x0), .val (.int x1), .unset, .unset, .unset, .unset] [(.int (30 : Int32)), (.ref a1), (.ref a1)])) rfl (hb hby at_197)) ?_
  show own_Go p e below _ (T31.setTop (mkF m 199 #[.val (.int x0), .val (.int x1), .unset, .unset, .unset, .unset] [(.int (983039 : Int32)), (.int (30 : Int32)), (.ref a1), (.ref a1)]))
  obtain ⟨T32, h32, X32, e32, W32, A32, st32⟩ := own_stI X31 hx hZ e31 A31 (g := (mkF m 199 #[.val (.int x0), .val (.int x1), .unset, .unset, .unset, .unset] [(.int (983039 : Int32)), (.int (30 : Int32)), (.ref a1), (.ref a1)])) rfl rfl (hb hby at_199) 30 (by decide) (by simp)
  have N32 := Fr.snoc X32 N31 (Nat.le_of_eq q1.symm)
  refine own_go st32 ?_
  show own_Go p e below _ (T32.setTop (mkF m 200 #[.val (.int x0), .val (.int x1), .unset, .unset, .unset, .unset] [(.ref a1)]))
  have AF : own_AV Z h32 a1 .int (([(0 : Int32), (58 : Int32), (65 : Int32), (90 : Int32), (95 : Int32), (97 : Int32), (122 : Int32), (192 : Int32), (214 : Int32), (216 : Int32), (246 : Int32), (248 : Int32), (767 : Int32), (880 : Int32), (893 : Int32), (895 : Int32), (8191 : Int32), (8204 : Int32), (8205 : Int32), (8304 : Int32), (8591 : Int32), (11264 : Int32), (12271 : Int32), (12289 : Int32), (55295 : Int32), (63744 : Int32), (64975 : Int32), (65008 : Int32), (65533 : Int32), (65536 : Int32), (983039 : Int32)] : List Int32).map Value.int) := A32
  refine own_go (fun _ => XS.astoreN X32.here hx rfl (hb hby at_200) rfl rfl (l' := #[.val (.int x0), .val (.int x1), .val (.ref a1), .unset, .unset, .unset]) rfl) ?_
  show own_Go p e below _ (T32.setTop (mkF m 201 #[.val (.int x0), .val (.int x1), .val (.ref a1), .unset, .unset, .unset] []))
  refine own_go (fun _ => XS.iloadN X32.here hx rfl (hb hby at_201) rfl) ?_
  show own_Go p e below _ (T32.setTop (mkF m 202 #[.val (.int x0), .val (.int x1), .val (.ref a1), .unset, .unset, .unset] [(.int x0)]))
  refine own_go (fun _ => XS.istoreN X32.here hx rfl (hb hby at_202) rfl (l' := #[.val (.int x0), .val (.int x1), .val (.ref a1), .val (.int x0), .unset, .unset]) rfl) ?_
  show own_Go p e below _ (T32.setTop (mkF m 203 #[.val (.int x0), .val (.int x1), .val (.ref a1), .val (.int x0), .unset, .unset] []))
  refine own_go (fun _ => XS.iloadN X32.here hx rfl (hb hby at_203) rfl) ?_
  show own_Go p e below _ (T32.setTop (mkF m 204 #[.val (.int x0), .val (.int x1), .val (.ref a1), .val (.int x0), .unset, .unset] [(.int x1)]))
  refine own_go (fun _ => XS.iconst X32.here hx rfl (hb hby at_204)) ?_
  show own_Go p e below _ (T32.setTop (mkF m 205 #[.val (.int x0), .val (.int x1), .val (.ref a1), .val (.int x0), .unset, .unset] [(.int (1 : Int32)), (.int x1)]))
  refine own_go (fun _ => XS.iand X32.here hx rfl (hb hby at_205) rfl) ?_
  show own_Go p e below _ (T32.setTop (mkF m 206 #[.val (.int x0), .val (.int x1), .val (.ref a1), .val (.int x0), .unset, .unset] [(.int (x1 &&& (1 : Int32)))]))
  by_cases hc : (x1 &&& (1 : Int32)) = (0 : Int32)
  · skip
    refine own_go (fun _ => XS.ifYes X32.here hx rfl (pc0 := 206) (pc' := 235) rfl (hb hby at_206) rfl (XT.i0_eq_t hc) (by decide) (by decide)) ?_
    show own_Go p e below _ (T32.setTop (mkF m 235 #[.val (.int x0), .val (.int x1), .val (.ref a1), .val (.int x0), .unset, .unset] []))
    show own_Go p e below _ (T32.setTop (mkF m 235 #[.val (.int x0), .val (.int x1), .val (.ref a1), .val (.int x0), .unset, .unset] []))
    refine own_go (fun _ => XS.iloadN X32.here hx rfl (hb hby at_235) rfl) ?_
    show own_Go p e below _ (T32.setTop (mkF m 236 #[.val (.int x0), .val (.int x1), .val (.ref a1), .val (.int x0), .unset, .unset] [(.int x0)]))
    obtain ⟨T101, X101, e101, st101⟩ := own_callSP X32 hx hZ hown (argsL := [(.int x0)]) (rest := []) (own_isNameStart_con l Z a0 hw x0 h32 []) e32 (hw _ (List.mem_of_getElem? (i := 8) rfl)) (hw _ (List.mem_of_getElem? (i := 9) rfl)) (hw _ (List.mem_of_getElem? (i := 10) rfl)) (hw _ (List.mem_of_getElem? (i := 11) rfl)) (by decide) (by decide +kernel : parseMethodDescriptor "(I)Z" = some ⟨[.int], some .boolean⟩) rfl (g := (mkF m 236 #[.val (.int x0), .val (.int x1), .val (.ref a1), .val (.int x0), .unset, .unset] [(.int x0)])) rfl (by rw [hml]; rfl) rfl 0 (by show 2 * 0 + _ ≤ _; exact Nat.le_of_eq rfl) (hb hby at_236) (by decide) (by decide) rfl rfl (by decide) (by decide)
    refine own_go st101 ?_
    show own_Go p e below _ (T101.setTop (mkF m 239 #[.val (.int x0), .val (.int x1), .val (.ref a1), .val (.int x0), .unset, .unset] [(.int (own_isNameStart x0))]))
    refine own_go (fun _ => XS.iloadN X101.here hx rfl (hb hby at_239) rfl) ?_
    show own_Go p e below _ (T101.setTop (mkF m 240 #[.val (.int x0), .val (.int x1), .val (.ref a1), .val (.int x0), .unset, .unset] [(.int x0), (.int (own_isNameStart x0))]))
    obtain ⟨T102, X102, e102, st102⟩ := own_callSP X101 hx hZ hown (argsL := [(.int x0)]) (rest := [(.int (own_isNameStart x0))]) (own_excluded_con l Z a0 hw x0 h32 []) e101 (hw _ (List.mem_of_getElem? (i := 15) rfl)) (hw _ (List.mem_of_getElem? (i := 16) rfl)) (hw _ (List.mem_of_getElem? (i := 17) rfl)) (hw _ (List.mem_of_getElem? (i := 18) rfl)) (by decide) (by decide +kernel : parseMethodDescriptor "(I)Z" = some ⟨[.int], some .boolean⟩) rfl (g := (mkF m 240 #[.val (.int x0), .val (.int x1), .val (.ref a1), .val (.int x0), .unset, .unset] [(.int x0), (.int (own_isNameStart x0))])) rfl (by rw [hml]; rfl) rfl 1 (by show 2 * 0 + _ ≤ _; exact Nat.le_of_eq rfl) (hb hby at_240) (by decide) (by decide) rfl rfl (by decide) (by decide)
    refine own_go st102 ?_
    show own_Go p e below _ (T102.setTop (mkF m 243 #[.val (.int x0), .val (.int x1), .val (.ref a1), .val (.int x0), .unset, .unset] [(.int (own_excluded x0)), (.int (own_isNameStart x0))]))
    rcases own_same x0 with ⟨y1, y2⟩ | ⟨y1, y2⟩
    · skip
      rw [y1, y2]
      show own_Go p e below _ (T102.setTop (mkF m 243 #[.val (.int x0), .val (.int x1), .val (.ref a1), .val (.int x0), .unset, .unset] [(.int (0 : Int32)), (.int (1 : Int32))]))
      refine own_go (fun _ => XS.ifNo X102.here hx rfl (hb hby at_243) rfl (XT.i0_ne_f (by decide))) ?_
      show own_Go p e below _ (T102.setTop (mkF m 246 #[.val (.int x0), .val (.int x1), .val (.ref a1), .val (.int x0), .unset, .unset] [(.int (1 : Int32))]))
      refine own_go (fun _ => XS.iconst X102.here hx rfl (hb hby at_246)) ?_
      show own_Go p e below _ (T102.setTop (mkF m 247 #[.val (.int x0), .val (.int x1), .val (.ref a1), .val (.int x0), .unset, .unset] [(.int (1 : Int32)), (.int (1 : Int32))]))
      refine own_go (fun _ => XS.goto X102.here hx rfl (pc0 := 247) (pc' := 251) rfl (hb hby at_247) (by decide) (by decide)) ?_
      show own_Go p e below _ (T102.setTop (mkF m 251 #[.val (.int x0), .val (.int x1), .val (.ref a1), .val (.int x0), .unset, .unset] [(.int (1 : Int32)), (.int (1 : Int32))]))
      refine own_go (fun _ => XS.icmpNo X102.here hx rfl (hb hby at_251) rfl (XT.ii_ne_f rfl)) ?_
      show own_Go p e below _ (T102.setTop (mkF m 254 #[.val (.int x0), .val (.int x1), .val (.ref a1), .val (.int x0), .unset, .unset] []))
      refine own_go (fun _ => XS.iconst X102.here hx rfl (hb hby at_254)) ?_
      show own_Go p e below _ (T102.setTop (mkF m 255 #[.val (.int x0), .val (.int x1), .val (.ref a1), .val (.int x0), .unset, .unset] [(.int (1 : Int32))]))
      refine own_go (fun _ => XS.goto X102.here hx rfl (pc0 := 255) (pc' := 259) rfl (hb hby at_255) (by decide) (by decide)) ?_
      show own_Go p e below _ (T102.setTop (mkF m 259 #[.val (.int x0), .val (.int x1), .val (.ref a1), .val (.int x0), .unset, .unset] [(.int (1 : Int32))]))
      exact own_iret X102 hx hlk hret (Or.inr (Or.inl rfl)) rfl (hb hby at_259) (by decide) (by decide) ⟨rfl, N32⟩
    · skip
      rw [y1, y2]
      show own_Go p e below _ (T102.setTop (mkF m 243 #[.val (.int x0), .val (.int x1), .val (.ref a1), .val (.int x0), .unset, .unset] [(.int (1 : Int32)), (.int (0 : Int32))]))
      refine own_go (fun _ => XS.ifYes X102.here hx rfl (pc0 := 243) (pc' := 250) rfl (hb hby at_243) rfl (XT.i0_ne_t (by decide)) (by decide) (by decide)) ?_
      show own_Go p e below _ (T102.setTop (mkF m 250 #[.val (.int x0), .val (.int x1), .val (.ref a1), .val (.int x0), .unset, .unset] [(.int (0 : Int32))]))
      refine own_go (fun _ => XS.iconst X102.here hx rfl (hb hby at_250)) ?_
      show own_Go p e below _ (T102.setTop (mkF m 251 #[.val (.int x0), .val (.int x1), .val (.ref a1), .val (.int x0), .unset, .unset] [(.int (0 : Int32)), (.int (0 : Int32))]))
      refine own_go (fun _ => XS.icmpNo X102.here hx rfl (hb hby at_251) rfl (XT.ii_ne_f rfl)) ?_
      show own_Go p e below _ (T102.setTop (mkF m 254 #[.val (.int x0), .val (.int x1), .val (.ref a1), .val (.int x0), .unset, .unset] []))
      refine own_go (fun _ => XS.iconst X102.here hx rfl (hb hby at_254)) ?_
      show own_Go p e below _ (T102.setTop (mkF m 255 #[.val (.int x0), .val (.int x1), .val (.ref a1), .val (.int x0), .unset, .unset] [(.int (1 : Int32))]))
      refine own_go (fun _ => XS.goto X102.here hx rfl (pc0 := 255) (pc' := 259) rfl (hb hby at_255) (by decide) (by decide)) ?_
      show own_Go p e below _ (T102.setTop (mkF m 259 #[.val (.int x0), .val (.int x1), .val (.ref a1), .val (.int x0), .unset, .unset] [(.int (1 : Int32))]))
      exact own_iret X102 hx hlk hret (Or.inr (Or.inl rfl)) rfl (hb hby at_259) (by decide) (by decide) ⟨rfl, N32⟩
  · skip
    refine own_go (fun _ => XS.ifNo X32.here hx rfl (hb hby at_206) rfl (XT.i0_eq_f hc)) ?_
    show own_Go p e below _ (T32.setTop (mkF m 209 #[.val (.int x0), .val (.int x1), .val (.ref a1), .val (.int x0), .unset, .unset] []))
    refine own_go (fun _ => XS.iloadN X32.here hx rfl (hb hby at_209) rfl) ?_
    show own_Go p e below _ (T32.setTop (mkF m 210 #[.val (.int x0), .val (.int x1), .val (.ref a1), .val (.int x0), .unset, .unset] [(.int x1)]))
    refine own_go (fun _ => XS.iconst X32.here hx rfl (hb hby at_210)) ?_
    show own_Go p e below _ (T32.setTop (mkF m 211 #[.val (.int x0), .val (.int x1), .val (.ref a1), .val (.int x0), .unset, .unset] [(.int (1 : Int32)), (.int x1)]))
    refine own_go (fun _ => XT.iushr X32.here hx rfl (hb hby at_211) rfl) ?_
    show own_Go p e below _ (T32.setTop (mkF m 212 #[.val (.int x0), .val (.int x1), .val (.ref a1), .val (.int x0), .unset, .unset] [(.int (XT.ushr x1 (1 : Int32)))]))
    refine own_go (fun _ => XS.bipush X32.here hx rfl (hb hby at_212)) ?_
    show own_Go p e below _ (T32.setTop (mkF m 214 #[.val (.int x0), .val (.int x1), .val (.ref a1), .val (.int x0), .unset, .unset] [(.int (31 : Int32)), (.int (XT.ushr x1 (1 : Int32)))]))
    refine own_go (fun _ => XS.irem X32.here hx rfl (hb hby at_214) rfl (by decide)) ?_
    show own_Go p e below _ (T32.setTop (mkF m 215 #[.val (.int x0), .val (.int x1), .val (.ref a1), .val (.int x0), .unset, .unset] [(.int ((XT.ushr x1 (1 : Int32)) - ((XT.ushr x1 (1 : Int32)) / (31 : Int32)) * (31 : Int32)))]))
    refine own_go (fun _ => XS.istore X32.here hx rfl (hb hby at_215) rfl (l' := #[.val (.int x0), .val (.int x1), .val (.ref a1), .val (.int x0), .val (.int ((XT.ushr x1 (1 : Int32)) - ((XT.ushr x1 (1 : Int32)) / (31 : Int32)) * (31 : Int32))), .unset]) rfl) ?_
    show own_Go p e below _ (T32.setTop (mkF m 217 #[.val (.int x0), .val (.int x1), .val (.ref a1), .val (.int x0), .val (.int ((XT.ushr x1 (1 : Int32)) - ((XT.ushr x1 (1 : Int32)) / (31 : Int32)) * (31 : Int32))), .unset] []))
    refine own_go (fun _ => XS.iloadN X32.here hx rfl (hb hby at_217) rfl) ?_
    show own_Go p e below _ (T32.setTop (mkF m 218 #[.val (.int x0), .val (.int x1), .val (.ref a1), .val (.int x0), .val (.int ((XT.ushr x1 (1 : Int32)) - ((XT.ushr x1 (1 : Int32)) / (31 : Int32)) * (31 : Int32))), .unset] [(.int x1)]))
    refine own_go (fun _ => XS.bipush X32.here hx rfl (hb hby at_218)) ?_
    show own_Go p e below _ (T32.setTop (mkF m 220 #[.val (.int x0), .val (.int x1), .val (.ref a1), .val (.int x0), .val (.int ((XT.ushr x1 (1 : Int32)) - ((XT.ushr x1 (1 : Int32)) / (31 : Int32)) * (31 : Int32))), .unset] [(.int (16 : Int32)), (.int x1)]))
    refine own_go (fun _ => XT.iushr X32.here hx rfl (hb hby at_220) rfl) ?_
    show own_Go p e below _ (T32.setTop (mkF m 221 #[.val (.int x0), .val (.int x1), .val (.ref a1), .val (.int x0), .val (.int ((XT.ushr x1 (1 : Int32)) - ((XT.ushr x1 (1 : Int32)) / (31 : Int32)) * (31 : Int32))), .unset] [(.int (XT.ushr x1 (16 : Int32)))]))
    refine own_go (fun _ => XS.iconst X32.here hx rfl (hb hby at_221)) ?_
    show own_Go p e below _ (T32.setTop (mkF m 222 #[.val (.int x0), .val (.int x1), .val (.ref a1), .val (.int x0), .val (.int ((XT.ushr x1 (1 : Int32)) - ((XT.ushr x1 (1 : Int32)) / (31 : Int32)) * (31 : Int32))), .unset] [(.int (5 : Int32)), (.int (XT.ushr x1 (16 : Int32)))]))
    refine own_go (fun _ => XS.irem X32.here hx rfl (hb hby at_222) rfl (by decide)) ?_
    show own_Go p e below _ (T32.setTop (mkF m 223 #[.val (.int x0), .val (.int x1), .val (.ref a1), .val (.int x0), .val (.int ((XT.ushr x1 (1 : Int32)) - ((XT.ushr x1 (1 : Int32)) / (31 : Int32)) * (31 : Int32))), .unset] [(.int ((XT.ushr x1 (16 : Int32)) - ((XT.ushr x1 (16 : Int32)) / (5 : Int32)) * (5 : Int32)))]))
    refine own_go (fun _ => XS.iconst X32.here hx rfl (hb hby at_223)) ?_
    show own_Go p e below _ (T32.setTop (mkF m 224 #[.val (.int x0), .val (.int x1), .val (.ref a1), .val (.int x0), .val (.int ((XT.ushr x1 (1 : Int32)) - ((XT.ushr x1 (1 : Int32)) / (31 : Int32)) * (31 : Int32))), .unset] [(.int (2 : Int32)), (.int ((XT.ushr x1 (16 : Int32)) - ((XT.ushr x1 (16 : Int32)) / (5 : Int32)) * (5 : Int32)))]))
    refine own_go (fun _ => XS.isub X32.here hx rfl (hb hby at_224) rfl) ?_
    show own_Go p e below _ (T32.setTop (mkF m 225 #[.val (.int x0), .val (.int x1), .val (.ref a1), .val (.int x0), .val (.int ((XT.ushr x1 (1 : Int32)) - ((XT.ushr x1 (1 : Int32)) / (31 : Int32)) * (31 : Int32))), .unset] [(.int (((XT.ushr x1 (16 : Int32)) - ((XT.ushr x1 (16 : Int32)) / (5 : Int32)) * (5 : Int32)) - (2 : Int32)))]))
    refine own_go (fun _ => XS.istore X32.here hx rfl (hb hby at_225) rfl (l' := #[.val (.int x0), .val (.int x1), .val (.ref a1), .val (.int x0), .val (.int ((XT.ushr x1 (1 : Int32)) - ((XT.ushr x1 (1 : Int32)) / (31 : Int32)) * (31 : Int32))), .val (.int (((XT.ushr x1 (16 : Int32)) - ((XT.ushr x1 (16 : Int32)) / (5 : Int32)) * (5 : Int32)) - (2 : Int32)))]) rfl) ?_
    show own_Go p e below _ (T32.setTop (mkF m 227 #[.val (.int x0), .val (.int x1), .val (.ref a1), .val (.int x0), .val (.int ((XT.ushr x1 (1 : Int32)) - ((XT.ushr x1 (1 : Int32)) / (31 : Int32)) * (31 : Int32))), .val (.int (((XT.ushr x1 (16 : Int32)) - ((XT.ushr x1 (16 : Int32)) / (5 : Int32)) * (5 : Int32)) - (2 : Int32)))] []))
    refine own_go (fun _ => XS.aloadN X32.here hx rfl (hb hby at_227) rfl rfl) ?_
    show own_Go p e below _ (T32.setTop (mkF m 228 #[.val (.int x0), .val (.int x1), .val (.ref a1), .val (.int x0), .val (.int ((XT.ushr x1 (1 : Int32)) - ((XT.ushr x1 (1 : Int32)) / (31 : Int32)) * (31 : Int32))), .val (.int (((XT.ushr x1 (16 : Int32)) - ((XT.ushr x1 (16 : Int32)) / (5 : Int32)) * (5 : Int32)) - (2 : Int32)))] [(.ref a1)]))
    refine own_go (fun _ => XS.iload X32.here hx rfl (hb hby at_228) rfl) ?_
    show own_Go p e below _ (T32.setTop (mkF m 230 #[.val (.int x0), .val (.int x1), .val (.ref a1), .val (.int x0), .val (.int ((XT.ushr x1 (1 : Int32)) - ((XT.ushr x1 (1 : Int32)) / (31 : Int32)) * (31 : Int32))), .val (.int (((XT.ushr x1 (16 : Int32)) - ((XT.ushr x1 (16 : Int32)) / (5 : Int32)) * (5 : Int32)) - (2 : Int32)))] [(.int ((XT.ushr x1 (1 : Int32)) - ((XT.ushr x1 (1 : Int32)) / (31 : Int32)) * (31 : Int32))), (.ref a1)]))
    have ej : ((XT.ushr x1 (1 : Int32)) - ((XT.ushr x1 (1 : Int32)) / (31 : Int32)) * (31 : Int32)).toInt = (((x1.toInt % 4294967296) / 2 % 31).toNat : Nat) := by
      have e1 : (XT.ushr x1 (1 : Int32)).toInt = (x1.toInt % 4294967296) / 2 := c_iushr x1 1 1 (by decide) (by decide)
      have e2 : ∀ z : Int32, 0 ≤ z.toInt → (z - (z / (31 : Int32)) * (31 : Int32)).toInt = z.toInt % 31 := own_rem31
      rw [e2 _ (by omega), e1]; omega
    obtain ⟨yv, hyv⟩ := own_ex [(0 : Int32), (58 : Int32), (65 : Int32), (90 : Int32), (95 : Int32), (97 : Int32), (122 : Int32), (192 : Int32), (214 : Int32), (216 : Int32), (246 : Int32), (248 : Int32), (767 : Int32), (880 : Int32), (893 : Int32), (895 : Int32), (8191 : Int32), (8204 : Int32), (8205 : Int32), (8304 : Int32), (8591 : Int32), (11264 : Int32), (12271 : Int32), (12289 : Int32), (55295 : Int32), (63744 : Int32), (64975 : Int32), (65008 : Int32), (65533 : Int32), (65536 : Int32), (983039 : Int32)] ((x1.toInt % 4294967296) / 2 % 31).toNat (by show _ < 31; omega)
    refine own_go (own_ldI X32 hx hZ e32 AF (g := (mkF m 230 #[.val (.int x0), .val (.int x1), .val (.ref a1), .val (.int x0), .val (.int ((XT.ushr x1 (1 : Int32)) - ((XT.ushr x1 (1 : Int32)) / (31 : Int32)) * (31 : Int32))), .val (.int (((XT.ushr x1 (16 : Int32)) - ((XT.ushr x1 (16 : Int32)) / (5 : Int32)) * (5 : Int32)) - (2 : Int32)))] [(.int ((XT.ushr x1 (1 : Int32)) - ((XT.ushr x1 (1 : Int32)) / (31 : Int32)) * (31 : Int32))), (.ref a1)])) rfl rfl (hb hby at_230) ((x1.toInt % 4294967296) / 2 % 31).toNat ej (x := (.int yv)) hyv) ?_
    show own_Go p e below _ (T32.setTop (mkF m 231 #[.val (.int x0), .val (.int x1), .val (.ref a1), .val (.int x0), .val (.int ((XT.ushr x1 (1 : Int32)) - ((XT.ushr x1 (1 : Int32)) / (31 : Int32)) * (31 : Int32))), .val (.int (((XT.ushr x1 (16 : Int32)) - ((XT.ushr x1 (16 : Int32)) / (5 : Int32)) * (5 : Int32)) - (2 : Int32)))] [(.int yv)]))
    refine own_go (fun _ => XS.iload X32.here hx rfl (hb hby at_231) rfl) ?_
    show own_Go p e below _ (T32.setTop (mkF m 233 #[.val (.int x0), .val (.int x1), .val (.ref a1), .val (.int x0), .val (.int ((XT.ushr x1 (1 : Int32)) - ((XT.ushr x1 (1 : Int32)) / (31 : Int32)) * (31 : Int32))), .val (.int (((XT.ushr x1 (16 : Int32)) - ((XT.ushr x1 (16 : Int32)) / (5 : Int32)) * (5 : Int32)) - (2 : Int32)))] [(.int (((XT.ushr x1 (16 : Int32)) - ((XT.ushr x1 (16 : Int32)) / (5 : Int32)) * (5 : Int32)) - (2 : Int32))), (.int yv)]))
    refine own_go (fun _ => XS.iadd X32.here hx rfl (hb hby at_233) rfl) ?_
    show own_Go p e below _ (T32.setTop (mkF m 234 #[.val (.int x0), .val (.int x1), .val (.ref a1), .val (.int x0), .val (.int ((XT.ushr x1 (1 : Int32)) - ((XT.ushr x1 (1 : Int32)) / (31 : Int32)) * (31 : Int32))), .val (.int (((XT.ushr x1 (16 : Int32)) - ((XT.ushr x1 (16 : Int32)) / (5 : Int32)) * (5 : Int32)) - (2 : Int32)))] [(.int (yv + (((XT.ushr x1 (16 : Int32)) - ((XT.ushr x1 (16 : Int32)) / (5 : Int32)) * (5 : Int32)) - (2 : Int32))))]))
    obtain ⟨pv, hpv⟩ : ∃ z, z = (yv + (((XT.ushr x1 (16 : Int32)) - ((XT.ushr x1 (16 : Int32)) / (5 : Int32)) * (5 : Int32)) - (2 : Int32))) := ⟨_, rfl⟩
    rw [← hpv]
    show own_Go p e below _ (T32.setTop (mkF m 234 #[.val (.int x0), .val (.int x1), .val (.ref a1), .val (.int x0), .val (.int ((XT.ushr x1 (1 : Int32)) - ((XT.ushr x1 (1 : Int32)) / (31 : Int32)) * (31 : Int32))), .val (.int (((XT.ushr x1 (16 : Int32)) - ((XT.ushr x1 (16 : Int32)) / (5 : Int32)) * (5 : Int32)) - (2 : Int32)))] [(.int pv)]))
    refine own_go (fun _ => XS.istoreN X32.here hx rfl (hb hby at_234) rfl (l' := #[.val (.int x0), .val (.int x1), .val (.ref a1), .val (.int pv), .val (.int ((XT.ushr x1 (1 : Int32)) - ((XT.ushr x1 (1 : Int32)) / (31 : Int32)) * (31 : Int32))), .val (.int (((XT.ushr x1 (16 : Int32)) - ((XT.ushr x1 (16 : Int32)) / (5 : Int32)) * (5 : Int32)) - (2 : Int32)))]) rfl) ?_
    show own_Go p e below _ (T32.setTop (mkF m 235 #[.val (.int x0), .val (.int x1), .val (.ref a1), .val (.int pv), .val (.int ((XT.ushr x1 (1 : Int32)) - ((XT.ushr x1 (1 : Int32)) / (31 : Int32)) * (31 : Int32))), .val (.int (((XT.ushr x1 (16 : Int32)) - ((XT.ushr x1 (16 : Int32)) / (5 : Int32)) * (5 : Int32)) - (2 : Int32)))] []))
    show own_Go p e below _ (T32.setTop (mkF m 235 #[.val (.int x0), .val (.int x1), .val (.ref a1), .val (.int pv), .val (.int ((XT.ushr x1 (1 : Int32)) - ((XT.ushr x1 (1 : Int32)) / (31 : Int32)) * (31 : Int32))), .val (.int (((XT.ushr x1 (16 : Int32)) - ((XT.ushr x1 (16 : Int32)) / (5 : Int32)) * (5 : Int32)) - (2 : Int32)))] []))
    refine own_go (fun _ => XS.iloadN X32.here hx rfl (hb hby at_235) rfl) ?_
    show own_Go p e below _ (T32.setTop (mkF m 236 #[.val (.int x0), .val (.int x1), .val (.ref a1), .val (.int pv), .val (.int ((XT.ushr x1 (1 : Int32)) - ((XT.ushr x1 (1 : Int32)) / (31 : Int32)) * (31 : Int32))), .val (.int (((XT.ushr x1 (16 : Int32)) - ((XT.ushr x1 (16 : Int32)) / (5 : Int32)) * (5 : Int32)) - (2 : Int32)))] [(.int pv)]))
    obtain ⟨T101, X101, e101, st101⟩ := own_callSP X32 hx hZ hown (argsL := [(.int pv)]) (rest := []) (own_isNameStart_con l Z a0 hw pv h32 []) e32 (hw _ (List.mem_of_getElem? (i := 8) rfl)) (hw _ (List.mem_of_getElem? (i := 9) rfl)) (hw _ (List.mem_of_getElem? (i := 10) rfl)) (hw _ (List.mem_of_getElem? (i := 11) rfl)) (by decide) (by decide +kernel : parseMethodDescriptor "(I)Z" = some ⟨[.int], some .boolean⟩) rfl (g := (mkF m 236 #[.val (.int x0), .val (.int x1), .val (.ref a1), .val (.int pv), .val (.int ((XT.ushr x1 (1 : Int32)) - ((XT.ushr x1 (1 : Int32)) / (31 : Int32)) * (31 : Int32))), .val (.int (((XT.ushr x1 (16 : Int32)) - ((XT.ushr x1 (16 : Int32)) / (5 : Int32)) * (5 : Int32)) - (2 : Int32)))] [(.int pv)])) rfl (by rw [hml]; rfl) rfl 0 (by show 2 * 0 + _ ≤ _; exact Nat.le_of_eq rfl) (hb hby at_236) (by decide) (by decide) rfl rfl (by decide) (by decide)
    refine own_go st101 ?_
    show own_Go p e below _ (T101.setTop (mkF m 239 #[.val (.int x0), .val (.int x1), .val (.ref a1), .val (.int pv), .val (.int ((XT.ushr x1 (1 : Int32)) - ((XT.ushr x1 (1 : Int32)) / (31 : Int32)) * (31 : Int32))), .val (.int (((XT.ushr x1 (16 : Int32)) - ((XT.ushr x1 (16 : Int32)) / (5 : Int32)) * (5 : Int32)) - (2 : Int32)))] [(.int (own_isNameStart pv))]))
    refine own_go (fun _ => XS.iloadN X101.here hx rfl (hb hby at_239) rfl) ?_
    show own_Go p e below _ (T101.setTop (mkF m 240 #[.val (.int x0), .val (.int x1), .val (.ref a1), .val (.int pv), .val (.int ((XT.ushr x1 (1 : Int32)) - ((XT.ushr x1 (1 : Int32)) / (31 : Int32)) * (31 : Int32))), .val (.int (((XT.ushr x1 (16 : Int32)) - ((XT.ushr x1 (16 : Int32)) / (5 : Int32)) * (5 : Int32)) - (2 : Int32)))] [(.int pv), (.int (own_isNameStart pv))]))
    obtain ⟨T102, X102, e102, st102⟩ := own_callSP X101 hx hZ hown (argsL := [(.int pv)]) (rest := [(.int (own_isNameStart pv))]) (own_excluded_con l Z a0 hw pv h32 []) e101 (hw _ (List.mem_of_getElem? (i := 15) rfl)) (hw _ (List.mem_of_getElem? (i := 16) rfl)) (hw _ (List.mem_of_getElem? (i := 17) rfl)) (hw _ (List.mem_of_getElem? (i := 18) rfl)) (by decide) (by decide +kernel : parseMethodDescriptor "(I)Z" = some ⟨[.int], some .boolean⟩) rfl (g := (mkF m 240 #[.val (.int x0), .val (.int x1), .val (.ref a1), .val (.int pv), .val (.int ((XT.ushr x1 (1 : Int32)) - ((XT.ushr x1 (1 : Int32)) / (31 : Int32)) * (31 : Int32))), .val (.int (((XT.ushr x1 (16 : Int32)) - ((XT.ushr x1 (16 : Int32)) / (5 : Int32)) * (5 : Int32)) - (2 : Int32)))] [(.int pv), (.int (own_isNameStart pv))])) rfl (by rw [hml]; rfl) rfl 1 (by show 2 * 0 + _ ≤ _; exact Nat.le_of_eq rfl) (hb hby at_240) (by decide) (by decide) rfl rfl (by decide) (by decide)
    refine own_go st102 ?_
    show own_Go p e below _ (T102.setTop (mkF m 243 #[.val (.int x0), .val (.int x1), .val (.ref a1), .val (.int pv), .val (.int ((XT.ushr x1 (1 : Int32)) - ((XT.ushr x1 (1 : Int32)) / (31 : Int32)) * (31 : Int32))), .val (.int (((XT.ushr x1 (16 : Int32)) - ((XT.ushr x1 (16 : Int32)) / (5 : Int32)) * (5 : Int32)) - (2 : Int32)))] [(.int (own_excluded pv)), (.int (own_isNameStart pv))]))
    rcases own_same pv with ⟨y1, y2⟩ | ⟨y1, y2⟩
    · skip
      rw [y1, y2]
      show own_Go p e below _ (T102.setTop (mkF m 243 #[.val (.int x0), .val (.int x1), .val (.ref a1), .val (.int pv), .val (.int ((XT.ushr x1 (1 : Int32)) - ((XT.ushr x1 (1 : Int32)) / (31 : Int32)) * (31 : Int32))), .val (.int (((XT.ushr x1 (16 : Int32)) - ((XT.ushr x1 (16 : Int32)) / (5 : Int32)) * (5 : Int32)) - (2 : Int32)))] [(.int (0 : Int32)), (.int (1 : Int32))]))
      refine own_go (fun _ => XS.ifNo X102.here hx rfl (hb hby at_243) rfl (XT.i0_ne_f (by decide))) ?_
      show own_Go p e below _ (T102.setTop (mkF m 246 #[.val (.int x0), .val (.int x1), .val (.ref a1), .val (.int pv), .val (.int ((XT.ushr x1 (1 : Int32)) - ((XT.ushr x1 (1 : Int32)) / (31 : Int32)) * (31 : Int32))), .val (.int (((XT.ushr x1 (16 : Int32)) - ((XT.ushr x1 (16 : Int32)) / (5 : Int32)) * (5 : Int32)) - (2 : Int32)))] [(.int (1 : Int32))]))
      refine own_go (fun _ => XS.iconst X102.here hx rfl (hb hby at_246)) ?_
      show own_Go p e below _ (T102.setTop (mkF m 247 #[.val (.int x0), .val (.int x1), .val (.ref a1), .val (.int pv), .val (.int ((XT.ushr x1 (1 : Int32)) - ((XT.ushr x1 (1 : Int32)) / (31 : Int32)) * (31 : Int32))), .val (.int (((XT.ushr x1 (16 : Int32)) - ((XT.ushr x1 (16 : Int32)) / (5 : Int32)) * (5 : Int32)) - (2 : Int32)))] [(.int (1 : Int32)), (.int (1 : Int32))]))
      refine own_go (fun _ => XS.goto X102.here hx rfl (pc0 := 247) (pc' := 251) rfl (hb hby at_247) (by decide) (by decide)) ?_
      show own_Go p e below _ (T102.setTop (mkF m 251 #[.val (.int x0), .val (.int x1), .val (.ref a1), .val (.int pv), .val (.int ((XT.ushr x1 (1 : Int32)) - ((XT.ushr x1 (1 : Int32)) / (31 : Int32)) * (31 : Int32))), .val (.int (((XT.ushr x1 (16 : Int32)) - ((XT.ushr x1 (16 : Int32)) / (5 : Int32)) * (5 : Int32)) - (2 : Int32)))] [(.int (1 : Int32)), (.int (1 : Int32))]))
      refine own_go (fun _ => XS.icmpNo X102.here hx rfl (hb hby at_251) rfl (XT.ii_ne_f rfl)) ?_
      show own_Go p e below _ (T102.setTop (mkF m 254 #[.val (.int x0), .val (.int x1), .val (.ref a1), .val (.int pv), .val (.int ((XT.ushr x1 (1 : Int32)) - ((XT.ushr x1 (1 : Int32)) / (31 : Int32)) * (31 : Int32))), .val (.int (((XT.ushr x1 (16 : Int32)) - ((XT.ushr x1 (16 : Int32)) / (5 : Int32)) * (5 : Int32)) - (2 : Int32)))] []))
      refine own_go (fun _ => XS.iconst X102.here hx rfl (hb hby at_254)) ?_
      show own_Go p e below _ (T102.setTop (mkF m 255 #[.val (.int x0), .val (.int x1), .val (.ref a1), .val (.int pv), .val (.int ((XT.ushr x1 (1 : Int32)) - ((XT.ushr x1 (1 : Int32)) / (31 : Int32)) * (31 : Int32))), .val (.int (((XT.ushr x1 (16 : Int32)) - ((XT.ushr x1 (16 : Int32)) / (5 : Int32)) * (5 : Int32)) - (2 : Int32)))] [(.int (1 : Int32))]))
      refine own_go (fun _ => XS.goto X102.here hx rfl (pc0 := 255) (pc' := 259) rfl (hb hby at_255) (by decide) (by decide)) ?_
      show own_Go p e below _ (T102.setTop (mkF m 259 #[.val (.int x0), .val (.int x1), .val (.ref a1), .val (.int pv), .val (.int ((XT.ushr x1 (1 : Int32)) - ((XT.ushr x1 (1 : Int32)) / (31 : Int32)) * (31 : Int32))), .val (.int (((XT.ushr x1 (16 : Int32)) - ((XT.ushr x1 (16 : Int32)) / (5 : Int32)) * (5 : Int32)) - (2 : Int32)))] [(.int (1 : Int32))]))
      exact own_iret X102 hx hlk hret (Or.inr (Or.inl rfl)) rfl (hb hby at_259) (by decide) (by decide) ⟨rfl, N32⟩
    · skip
      rw [y1, y2]
      show own_Go p e below _ (T102.setTop (mkF m 243 #[.val (.int x0), .val (.int x1), .val (.ref a1), .val (.int pv), .val (.int ((XT.ushr x1 (1 : Int32)) - ((XT.ushr x1 (1 : Int32)) / (31 : Int32)) * (31 : Int32))), .val (.int (((XT.ushr x1 (16 : Int32)) - ((XT.ushr x1 (16 : Int32)) / (5 : Int32)) * (5 : Int32)) - (2 : Int32)))] [(.int (1 : Int32)), (.int (0 : Int32))]))
      refine own_go (fun _ => XS.ifYes X102.here hx rfl (pc0 := 243) (pc' := 250) rfl (hb hby at_243) rfl (XT.i0_ne_t (by decide)) (by decide) (by decide)) ?_
      show own_Go p e below _ (T102.setTop (mkF m 250 #[.val (.int x0), .val (.int x1), .val (.ref a1), .val (.int pv), .val (.int ((XT.ushr x1 (1 : Int32)) - ((XT.ushr x1 (1 : Int32)) / (31 : Int32)) * (31 : Int32))), .val (.int (((XT.ushr x1 (16 : Int32)) - ((XT.ushr x1 (16 : Int32)) / (5 : Int32)) * (5 : Int32)) - (2 : Int32)))] [(.int (0 : Int32))]))
      refine own_go (fun _ => XS.iconst X102.here hx rfl (hb hby at_250)) ?_
      show own_Go p e below _ (T102.setTop (mkF m 251 #[.val (.int x0), .val (.int x1), .val (.ref a1), .val (.int pv), .val (.int ((XT.ushr x1 (1 : Int32)) - ((XT.ushr x1 (1 : Int32)) / (31 : Int32)) * (31 : Int32))), .val (.int (((XT.ushr x1 (16 : Int32)) - ((XT.ushr x1 (16 : Int32)) / (5 : Int32)) * (5 : Int32)) - (2 : Int32)))] [(.int (0 : Int32)), (.int (0 : Int32))]))
      refine own_go (fun _ => XS.icmpNo X102.here hx rfl (hb hby at_251) rfl (XT.ii_ne_f rfl)) ?_
      show own_Go p e below _ (T102.setTop (mkF m 254 #[.val (.int x0), .val (.int x1), .val (.ref a1), .val (.int pv), .val (.int ((XT.ushr x1 (1 : Int32)) - ((XT.ushr x1 (1 : Int32)) / (31 : Int32)) * (31 : Int32))), .val (.int (((XT.ushr x1 (16 : Int32)) - ((XT.ushr x1 (16 : Int32)) / (5 : Int32)) * (5 : Int32)) - (2 : Int32)))] []))
      refine own_go (fun _ => XS.iconst X102.here hx rfl (hb hby at_254)) ?_
      show own_Go p e below _ (T102.setTop (mkF m 255 #[.val (.int x0), .val (.int x1), .val (.ref a1), .val (.int pv), .val (.int ((XT.ushr x1 (1 : Int32)) - ((XT.ushr x1 (1 : Int32)) / (31 : Int32)) * (31 : Int32))), .val (.int (((XT.ushr x1 (16 : Int32)) - ((XT.ushr x1 (16 : Int32)) / (5 : Int32)) * (5 : Int32)) - (2 : Int32)))] [(.int (1 : Int32))]))
      refine own_go (fun _ => XS.goto X102.here hx rfl (pc0 := 255) (pc' := 259) rfl (hb hby at_255) (by decide) (by decide)) ?_
      show own_Go p e below _ (T102.setTop (mkF m 259 #[.val (.int x0), .val (.int x1), .val (.ref a1), .val (.int pv), .val (.int ((XT.ushr x1 (1 : Int32)) - ((XT.ushr x1 (1 : Int32)) / (31 : Int32)) * (31 : Int32))), .val (.int (((XT.ushr x1 (16 : Int32)) - ((XT.ushr x1 (16 : Int32)) / (5 : Int32)) * (5 : Int32)) - (2 : Int32)))] [(.int (1 : Int32))]))
      exact own_iret X102 hx hlk hret (Or.inr (Or.inl rfl)) rfl (hb hby at_259) (by decide) (by decide) ⟨rfl, N32⟩
set_option maxRecDepth 65536 in
set_option maxHeartbeats 40000000 in
theorem comes_1 {Post : Tables → Env → Array Value → State → Outcome → State → Prop} (hpost : ∀ tb e args s v u, (limb_1_1.after args s (.returned v) u = true ∧ limb_1_2.after args s (.returned v) u = true ∧ True) → FrameEnd s (.returned v) u (Jvm.fieldLocs frame_1_writes args s ++ Jvm.arrayLocs frame_1_arrays args s ++ Jvm.staticLocs frame_1_statics s) 16 128 → Post tb e args s (.returned v) u) :
    ArmFor flags0 classFile x code maxLocals ret World_1 tables_1 room_1 Calls_1 rest_1 Pre_1 Post := by
  intro l hfl _ _ p e ha hc hk s m args below hf hA hF happ hP
  obtain ⟨hcalls, hrest, hpre⟩ := hP
  obtain ⟨-, -, -, hnamed, -, -, -, hat⟩ := (Spec.applies_iff hf).mp happ
  obtain ⟨hg, hn⟩ := and_e (Cond.before_iff.mp (show (Jvm.Cond.and given_1 narrow_1).before args s = true from hpre))
  obtain ⟨gc, gr0⟩ := and_e hg
  obtain ⟨g0, gr1⟩ := and_e gr0
  obtain ⟨w0, w1, rfl⟩ : ∃ w0 w1 : Value, args = #[w0, w1] := by
    have hs : args.size = 2 := by simpa [Cond.value, given_1] using gc
    obtain ⟨L⟩ := args
    match L, hs with
    | [w0, w1], _ => exact ⟨w0, w1, rfl⟩
  have hw := fun d (hd : d ∈ tables_1) => atoms_spec (ws := Jvm.Cond.code x code maxLocals ret :: tables_1) hat d (List.mem_cons_of_mem _ hd)
  have hfit : Fit s := fun {y c} hc i hi => by
    obtain ⟨ha, rfl⟩ := Array.getElem?_eq_some_iff.mp hc
    have q := List.all_eq_true.mp ((Array.all_eq_true_iff_forall_mem.mp hF) _ (Array.getElem_mem ha)) i (List.mem_range.mpr hi)
    simpa [Array.getElem?_eq_getElem hi] using q
  obtain ⟨i0, ei0⟩ := is_v g0
  obtain rfl : w0 = (.int i0) := Option.some.inj ei0
  obtain ⟨i1, ei1⟩ := is_v gr1
  obtain rfl : w1 = (.int i1) := Option.some.inj ei1
  obtain ⟨n, o, h1, h2, h3, _, L, rfl, ⟨rfl, N⟩, hq⟩ := own_main_con l s _ hw i0 i1  s.heap tables_1 p e ha hc hk s m _ below hf ((Spec.applies_iff_loose hf).mp happ).1 ⟨rfl, State.Warmed39.refl s, rfl⟩ trivial
  refine ⟨n, _, h1, h2, h3, hpost _ _ _ _ _ _ ⟨Cond.after_iff.mpr rfl, Cond.after_iff.mpr (eq_i res_at (Term.int_eval (1)) rfl), trivial⟩ ⟨hq.1, hq.2.1, (hq.2.2.sift fun y hy => Or.inr (N y hy)).mono (by decide) (by decide)⟩⟩
theorem main_1_1 : Claimed_1_1 := comes_1 fun _ _ _ _ _ _ h hF => ⟨h.1, hF⟩
theorem main_1_2 : Claimed_1_2 := comes_1 fun _ _ _ _ _ _ h hF => ⟨h.2.1, hF⟩
end Jvm.Pilot.@@N@@
namespace Jvm.Pilot.@@N@@
open Jvm Jvm.ClassFile Sem Op Lib Jvm.Free Jvm.Stand Jvm.Pilot.@@N@@.Jvm.D
/-! MADE BY PROGRAM (witnessworld.py) out of the Statement's table words and the real class files: 9 classes; the members and pool entries that the words name. The judged class is class 1, her method 2. -/
namespace start1
open Jvm.ClassFile
def u (s : String) : CpInfo := .utf8 (stringToUtf16 s)
/-- a pool by its gaps: so many unusable entries, then the entry; so many at the end -/
def gap : Nat → List CpInfo → List CpInfo
  | 0, r => r
  | n + 1, r => .unusable :: gap n r
def poolList (es : List (Nat × CpInfo)) (last : Nat) : List CpInfo := es.foldr (fun e r => gap e.1 (e.2 :: r)) (gap last [])
def pool (es : List (Nat × CpInfo)) (last : Nat) : Array CpInfo := ⟨poolList es last⟩
def fileOf (pool : Array CpInfo) (this : Nat) (attrs : Array Attribute := #[]) (ms : Array MethodInfo := #[]) (fl : Nat := 33) (sup : Nat := 0) (ifs : Array Nat := #[]) (fds : Array FieldInfo := #[]) : ClassFile where
  minorVersion := 0
  majorVersion := 65
  constantPool := pool
  accessFlags := fl
  thisClass := this
  superClass := sup
  interfaces := ifs
  fields := fds
  methods := ms
  attributes := attrs
def plain (name : String) (sup : Option ClassId) : Class where
  name := name
  kind := .ordinary
  loader := none
  accessFlags := 33
  super := sup
  interfaces := #[]
  cf := none
  fields := #[]
  methods := #[]
  instanceTypes := #[]
  staticTypes := #[]
  resolved := #[]
  callSites := []
  init := .initialized
  statics := none
  mirror := none

def pool0 : Array CpInfo := pool [(5, u "<init>"), (0, u "()V"), (1, .class_ 10), (1, u "java/lang/Object")] 113

def k0m0 : Method := { name := "<init>", desc := "()V", sig := { parameters := [], returnType := none }, accessFlags := 1, code := none }
/-- java/lang/Object -/
def k0 : Class := { plain "java/lang/Object" none with
  accessFlags := 33
  interfaces := #[]
  cf := some (fileOf pool0 8 #[] #[{ accessFlags := 1, nameIndex := 5, descriptorIndex := 6, attributes := #[] }] 33 0 #[] #[])
  fields := #[]
  methods := #[k0m0]
  instanceTypes := #[]
  staticTypes := #[]
  resolved := Array.replicate 124 none
  statics := none }

def pool1 : Array CpInfo := pool [(2, .class_ 4), (1, u "java/lang/Object"), (0, u "<init>"), (0, u "()V"), (0, .integer 55296), (0, .integer 63743), (0, .integer 64976), (0, .integer 65007), (0, .integer 65534), (0, .integer 65535), (0, .integer 983039), (0, .integer 55295), (0, .integer 63744), (0, .integer 64975), (0, .integer 65008), (0, .integer 65533), (0, .integer 65536), (0, .methodref 21 22), (0, .class_ 23), (0, .nameAndType 24 25), (0, u "com/example/rowtree/rowtree/store/XmlSyntax"), (0, u "isNameStart"), (0, u "(I)Z"), (0, .methodref 27 28), (0, .class_ 29), (0, .nameAndType 30 25), (0, u "com/example/rowtree/rowtree/store/XmlSyntaxIsNameStartPinLaw"), (0, u "excluded"), (3, u "law"), (0, u "(II)Z")] 4

def k1m0 : Method := { name := "<init>", desc := "()V", sig := { parameters := [], returnType := none }, accessFlags := 2, code := none }
def k1c1 : Code := { maxStack := 2, maxLocals := 1, code := method_2_code, exceptionTable := #[], attributes := #[] }
def k1m1 : Method := { name := "excluded", desc := "(I)Z", sig := { parameters := [.int], returnType := some .boolean }, accessFlags := 10, code := some k1c1 }
def k1c2 : Code := { maxStack := 4, maxLocals := 6, code := code, exceptionTable := #[], attributes := #[] }
def k1m2 : Method := { name := "law", desc := "(II)Z", sig := { parameters := [.int, .int], returnType := some .boolean }, accessFlags := 9, code := some k1c2 }
/-- com/example/rowtree/rowtree/store/XmlSyntaxIsNameStartPinLaw -/
def k1 : Class := { plain "com/example/rowtree/rowtree/store/XmlSyntaxIsNameStartPinLaw" (some 0) with
  accessFlags := 49
  interfaces := #[]
  cf := some (fileOf pool1 27 #[] #[{ accessFlags := 2, nameIndex := 5, descriptorIndex := 6, attributes := #[] }, { accessFlags := 10, nameIndex := 30, descriptorIndex := 25, attributes := #[] }, { accessFlags := 9, nameIndex := 34, descriptorIndex := 35, attributes := #[] }] 49 2 #[] #[])
  fields := #[]
  methods := #[k1m0, k1m1, k1m2]
  instanceTypes := #[]
  staticTypes := #[]
  resolved := Array.replicate 40 none
  statics := none }

def pool2 : Array CpInfo := pool [(2, .class_ 4), (1, u "java/lang/Object"), (0, u "<init>"), (0, u "()V"), (0, .integer 55295), (0, .integer 63744), (0, .integer 64975), (0, .integer 65008), (0, .integer 65533), (0, .integer 65536), (0, .integer 983039), (1, .class_ 17), (1, u "com/example/rowtree/rowtree/store/XmlSyntax"), (0, u "isNameStart"), (0, u "(I)Z")] 73

def k2m0 : Method := { name := "<init>", desc := "()V", sig := { parameters := [], returnType := none }, accessFlags := 2, code := none }
def k2c1 : Code := { maxStack := 2, maxLocals := 1, code := prog_165_method_2_code, exceptionTable := #[], attributes := #[] }
def k2m1 : Method := { name := "isNameStart", desc := "(I)Z", sig := { parameters := [.int], returnType := some .boolean }, accessFlags := 9, code := some k2c1 }
/-- com/example/rowtree/rowtree/store/XmlSyntax -/
def k2 : Class := { plain "com/example/rowtree/rowtree/store/XmlSyntax" (some 0) with
  accessFlags := 49
  interfaces := #[]
  cf := some (fileOf pool2 15 #[] #[{ accessFlags := 2, nameIndex := 5, descriptorIndex := 6, attributes := #[] }, { accessFlags := 9, nameIndex := 18, descriptorIndex := 19, attributes := #[] }] 49 2 #[] #[])
  fields := #[]
  methods := #[k2m0, k2m1]
  instanceTypes := #[]
  staticTypes := #[]
  resolved := Array.replicate 93 none
  statics := none }

def pool3 : Array CpInfo := pool [(1, u "java/lang/Cloneable"), (0, .class_ 1), (0, u "java/lang/Object"), (0, .class_ 3)] 3

/-- java/lang/Cloneable -/
def k3 : Class := { plain "java/lang/Cloneable" (some 0) with
  accessFlags := 1537
  interfaces := #[]
  cf := some (fileOf pool3 2 #[] #[] 1537 4 #[] #[])
  fields := #[]
  methods := #[]
  instanceTypes := #[]
  staticTypes := #[]
  resolved := Array.replicate 8 none
  statics := none }

def pool4 : Array CpInfo := pool [(1, u "java/io/Serializable"), (0, .class_ 1), (0, u "java/lang/Object"), (0, .class_ 3)] 3

/-- java/io/Serializable -/
def k4 : Class := { plain "java/io/Serializable" (some 0) with
  accessFlags := 1537
  interfaces := #[]
  cf := some (fileOf pool4 2 #[] #[] 1537 4 #[] #[])
  fields := #[]
  methods := #[]
  instanceTypes := #[]
  staticTypes := #[]
  resolved := Array.replicate 8 none
  statics := none }

/-- the primitive byte -/
def k5 : Class := { plain "byte" none with kind := .primitive 'B', accessFlags := 0x411 }
/-- [B -/
def k6 : Class := { plain "[B" (some 0) with kind := .array 5 .byte, interfaces := #[3, 4], accessFlags := 1041 }

/-- the primitive int -/
def k7 : Class := { plain "int" none with kind := .primitive 'I', accessFlags := 0x411 }
/-- [I -/
def k8 : Class := { plain "[I" (some 0) with kind := .array 7 .int, interfaces := #[3, 4], accessFlags := 1041 }

def heap : Heap := #[]
def classes : Array Class := #[k0, k1, k2, k3, k4, k5, k6, k7, k8]
def interned : List (Array UInt16 × Addr) := []
def slotsUsed : Nat := 0
def theMethod : MethodId := ⟨1, 2⟩
def args0 : Array Value := #[.int 5, .int 7]
def aboutOver (below : List Frame) : State where
  vm := { classes := classes, interned := interned.toArray }
  heap := heap
  slotsUsed := slotsUsed
  threads := #[{ frames := .invoking theMethod args0 :: below }]
def below0 : List Frame := [.native { method := ⟨0, 0⟩, args := #[] }]
def about1 : State := aboutOver below0
def p0 : Program := .bare "" "" ""
def e0 : Env := launch0.env 0 0 0
theorem w_frames : about1.frames = Frame.invoking theMethod args0 :: below0 := rfl
set_option maxRecDepth 65536 in
theorem w_args : argsFit about1.vm theMethod args0 = true := by decide +kernel
set_option maxRecDepth 65536 in
theorem w_heap : heapFits about1 = true := by decide +kernel
set_option maxRecDepth 65536 in
theorem w_runnable : about1.curStatus? = some .runnable := by decide +kernel
set_option maxRecDepth 65536 in
theorem w_alone : about1.alone = true := by decide +kernel
set_option maxRecDepth 65536 in
theorem w_named : about1.methodNamed? x = some theMethod := by decide +kernel
set_option maxRecDepth 65536 in
theorem w_hears : about1.hears theMethod below0 = true := by decide +kernel
set_option maxRecDepth 65536 in
theorem w_ripe : about1.ripe theMethod args0 below0 = true := by decide +kernel
theorem w_running : about1.status = .running := rfl
set_option maxRecDepth 65536 in
theorem w_room : about1.hasRoom e0.platform room_1 = true :=
  launch0.hasRoom_least _ room_1 (by decide +kernel) (by decide +kernel) (by decide +kernel) (by decide +kernel) (by decide +kernel) (by decide +kernel)
theorem allAtoms_all (ts : List Jvm.Cond) (a : Array Jvm.Value) (st : Jvm.State) : (allAtoms ts).before a st = ts.all (fun c => c.before a st) := by
  induction ts with
  | nil => rfl
  | cons c t ih =>
    show (Jvm.Cond.and c (allAtoms t)).before a st = _
    rw [Jvm.Cond.before_and, ih, List.all_cons]
def words1 : List Jvm.Cond := Jvm.Cond.code x code maxLocals ret :: tables_1
/-- a 'code' word, met by the world's own term for the bytes: nothing is compared byte by byte -/
theorem code_word {y : MethodName} {bytes : ByteArray} {mx : Nat} {rt : Option FieldType} {a : Array Value} {s : State} {m : MethodId} {meth : Method} {c : Code} (h1 : s.methodNamed? y = some m) (h2 : s.vm.method? m = some meth) (h3 : meth.code = some c) (h4 : c.code = bytes)
    (h5 : (c.maxLocals == mx && c.exceptionTable.isEmpty && decide (c.maxStack ≤ mostOperands) && decide (meth.sig.returnType = rt) && !meth.locks && decide (parseMethodDescriptor y.desc = some meth.sig)) = true) : (Jvm.Cond.code y bytes mx rt).before a s = true := by
  simp only [Bool.and_eq_true, beq_iff_eq, Bool.not_eq_true', decide_eq_true_eq] at h5
  obtain ⟨⟨⟨⟨⟨g1, g2⟩, g3⟩, g4⟩, g5⟩, g6⟩ := h5
  simp [Cond.before, Cond.holds, Cond.value, h1, h2, h3, h4, g1, g2, g3, g4, g5, g6]
def isCode : Jvm.Cond → Bool
  | .code _ _ _ _ => true
  | _ => false
theorem all_split {L : List Jvm.Cond} {P : Jvm.Cond → Bool} (h1 : L.all (fun c => isCode c || P c) = true) (h2 : ∀ c ∈ L.filter isCode, P c = true) : L.all P = true := by
  refine List.all_eq_true.mpr fun c hc => ?_
  have h := List.all_eq_true.mp h1 c hc
  rcases Bool.eq_false_or_eq_true (isCode c) with hi | hi
  · exact h2 c (List.mem_filter.mpr ⟨hc, hi⟩)
  · simpa [hi] using h
set_option maxRecDepth 65536 in
theorem w_c0 : (Jvm.Cond.code x code maxLocals ret).before args0 about1 = true := code_word (m := ⟨1, 2⟩) (meth := k1m2) (c := k1c2) (by decide +kernel) rfl rfl rfl (by decide +kernel)
set_option maxRecDepth 65536 in
theorem w_c1 : (Jvm.Cond.code ({ cls := "com/example/rowtree/rowtree/store/XmlSyntax", name := "isNameStart", desc := "(I)Z" } : Jvm.MethodName) prog_165_method_2_code (1 : Nat) (Option.some Jvm.ClassFile.FieldType.boolean)).before args0 about1 = true := code_word (m := ⟨2, 1⟩) (meth := k2m1) (c := k2c1) (by decide +kernel) rfl rfl rfl (by decide +kernel)
set_option maxRecDepth 65536 in
theorem w_c2 : (Jvm.Cond.code ({ cls := "com/example/rowtree/rowtree/store/XmlSyntaxIsNameStartPinLaw", name := "excluded", desc := "(I)Z" } : Jvm.MethodName) method_2_code (1 : Nat) (Option.some Jvm.ClassFile.FieldType.boolean)).before args0 about1 = true := code_word (m := ⟨1, 1⟩) (meth := k1m1) (c := k1c1) (by decide +kernel) rfl rfl rfl (by decide +kernel)
def codes1 : List Jvm.Cond := [Jvm.Cond.code x code maxLocals ret, Jvm.Cond.code ({ cls := "com/example/rowtree/rowtree/store/XmlSyntax", name := "isNameStart", desc := "(I)Z" } : Jvm.MethodName) prog_165_method_2_code (1 : Nat) (Option.some Jvm.ClassFile.FieldType.boolean), Jvm.Cond.code ({ cls := "com/example/rowtree/rowtree/store/XmlSyntaxIsNameStartPinLaw", name := "excluded", desc := "(I)Z" } : Jvm.MethodName) method_2_code (1 : Nat) (Option.some Jvm.ClassFile.FieldType.boolean)]
set_option maxRecDepth 65536 in
theorem codes_eq : words1.filter isCode = codes1 := rfl
theorem w_codes : ∀ c ∈ words1.filter isCode, c.before args0 about1 = true := by
  rw [codes_eq]
  intro c hc
  simp only [codes1, List.mem_cons, List.not_mem_nil, or_false] at hc
  rcases hc with rfl | rfl | rfl
  · exact w_c0
  · exact w_c1
  · exact w_c2
set_option maxRecDepth 65536 in
theorem w_t1 : (words1.take 24).all (fun c => isCode c || c.before args0 about1) = true := by decide +kernel
set_option maxRecDepth 65536 in
theorem w_t2 : (words1.drop 24).all (fun c => isCode c || c.before args0 about1) = true := by decide +kernel
theorem w_tables : (allAtoms (Jvm.Cond.code x code maxLocals ret :: tables_1)).before args0 about1 = true := by
  rw [allAtoms_all]
  show words1.all (fun c => c.before args0 about1) = true
  refine all_split ?_ w_codes
  rw [← List.take_append_drop 24 words1, List.all_append, w_t1, w_t2]
  rfl
set_option maxRecDepth 65536 in
theorem w_case : (Jvm.Cond.and given_1 narrow_1).before args0 about1 = true := by decide +kernel
theorem w_applies : (headSpec (Jvm.Cond.code x code maxLocals ret :: tables_1) room_1).applies x e0.platform about1 = true :=
  (Spec.applies_iff w_frames).mpr ⟨w_running, w_runnable, w_alone, w_named, w_hears, w_ripe, w_room, w_tables⟩
theorem atStart : AtStart classFile x code maxLocals ret World_1 tables_1 room_1 Calls_1 rest_1 Pre_1 launch0 p0 e0 about1 theMethod args0 below0 :=
  ⟨lists_1, trivial, launch0.admits_env _ _ _, launch0.least_env, fairChoices_fair.cas, fairChoices_fair.clock, w_frames, w_args, w_heap, w_applies, trivial, trivial, w_case⟩
end start1
theorem witness_1 : WitnessClaimed_1 := ⟨start1.p0, start1.e0, start1.about1, start1.theMethod, start1.args0, start1.below0, start1.atStart⟩
end Jvm.Pilot.@@N@@
