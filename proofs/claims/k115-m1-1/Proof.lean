import JvmDerived
import JvmDerived.Pilot.@@N@@Statement
import JvmDerived.Pilot.@@N@@Code
set_option linter.unusedVariables false
set_option linter.unusedSimpArgs false
namespace Jvm.Pilot.@@N@@
open Jvm Jvm.ClassFile Sem Op Lib Jvm.Free Jvm.Stand Jvm.LawKit Jvm.RoadKit Bundle Jvm.Pilot.@@N@@.Jvm.D
section OwnKit
variable {p : Program} {l : Launch} {e : Env} {R : Room} {s : State} {m : MethodId} {args : Array Value} {below : List Frame} {meth : Method} {c : Code} {T : State} {locs : List Loc} {cells slots : Nat} {Z : State} {a0 : Array Value} {h h' h0 : Heap}
/-- the rest of the body's run, from A on: it ends, and E holds there -/
def own_Go (p : Program) (e : Env) (below : List Frame) (E : Outcome → State → Prop) (A : State) : Prop :=
  ∃ s₂ o, Steps p.tables e below A s₂ ∧ s₂.status = .running ∧ Ended s₂ below o ∧ E o s₂
theorem own_go {E : Outcome → State → Prop} {A B : State} (k : ∀ t, Steps p.tables e below A t → Steps p.tables e below B t) (g : own_Go p e below E A) : own_Go p e below E B := by
  obtain ⟨s₂, o, h1, h2⟩ := g
  exact ⟨s₂, o, k _ h1, h2⟩
theorem own_goT {E : Outcome → State → Prop} {A B : State} (k : Steps p.tables e below B A) (g : own_Go p e below E A) : own_Go p e below E B := own_go (fun _ q => k.trans q) g
/-- what a body leaves -/
def own_Out (s : State) (Q : Option Value → Heap → List Loc → Prop) (C S : Nat) (o : Outcome) (U : State) : Prop :=
  ∃ v L, o = .returned v ∧ Q v U.heap L ∧ FrameEnd s o U L C S
/-- a body's contract: called with as' over the heap h0 it returns, and Q holds of what it returns, of the heap that it leaves and of the places that it wrote -/
def own_Con (l : Launch) (Z : State) (y : MethodName) (bytes : ByteArray) (maxL : Nat) (ret : Option FieldType) (rm : Room) (as' : Array Value) (h0 : Heap) (Q : Option Value → Heap → List Loc → Prop) (ws : List Jvm.Cond) : Prop :=
  MetFree l y (head1 (Jvm.Cond.code y bytes maxL ret :: ws) rm) (fun a U => a = as' ∧ Z.Warmed39 U.vm ∧ U.heap = h0) (fun _ _ _ _ _ => True) (fun _ U o U' => ∃ v L, o = .returned v ∧ Q v U'.heap L ∧ FrameEnd U o U' L rm.cells rm.slots)
theorem own_con {y : MethodName} {bytes : ByteArray} {maxL : Nat} {ret : Option FieldType} {rm : Room} {as' : Array Value} {Q : Option Value → Heap → List Loc → Prop} {ws : List Jvm.Cond} {F : MethodId → JFrame} (hpn : plainFor y = true) (hef : ∀ m, entryFrame m as' maxL = F m)
    (H : ∀ (p : Program) (e : Env) (s : State) (m : MethodId) (below : List Frame) (meth : Method) (c : Code) (T : State), Stand p l e rm s m as' below meth c T [] 0 0 → p.tables.exec = Jvm.exec → c.code = bytes → c.maxLocals = maxL → Z.Warmed39 s.vm → s.vm.findClass y.cls = some m.cls → meth.name = y.name →
      meth.sig.returnType = ret → meth.locks = false → T.heap = h0 → own_Go p e below (own_Out s Q rm.cells rm.slots) (T.setTop (F m))) :
    own_Con l Z y bytes maxL ret rm as' h0 Q ws := by
  refine MetFree.of_bodySF hpn hisR ?_
  intro p e s m args below meth c s₁ Bd hml0 hP hK
  obtain ⟨rfl, hZ, hh⟩ := hP
  have k := H p e s m below meth c s₁ (Stand.of_body Bd) Bd.exec Bd.bytes hml0 hZ (findClass_of_methodNamed Bd.named) (name_of_methodNamed Bd.named Bd.method).1 Bd.returns Bd.notSynchronized (by rw [← hh, Bd.state]; rfl)
  rw [← hef m] at k
  exact k
theorem own_Con.mono {y : MethodName} {bytes : ByteArray} {maxL : Nat} {ret : Option FieldType} {rm : Room} {as' : Array Value} {Q Q' : Option Value → Heap → List Loc → Prop} {ws : List Jvm.Cond} (H : own_Con l Z y bytes maxL ret rm as' h0 Q ws) (k : ∀ v h L, Q v h L → Q' v h L) : own_Con l Z y bytes maxL ret rm as' h0 Q' ws := by
  intro p e ha hc hk s m args below hf happ hP hK
  obtain ⟨n, o, g1, g2, g3, v, L, g4, g5, g6⟩ := H p e ha hc hk s m args below hf happ hP hK
  exact ⟨n, o, g1, g2, g3, v, L, g4, k _ _ _ g5, g6⟩
/-! leaving -/
theorem own_iret (X : Stand p l e R s m args below meth c T locs cells slots) (hx : p.tables.exec = Jvm.exec) (hlk : meth.locks = false) {t : FieldType} (hret : meth.sig.returnType = some t) (hti : t = .int ∨ t = .boolean ∨ t = .byte ∨ t = .char ∨ t = .short) {pc : Nat} {Ls : Array Slot} {z : Int32} (hn : narrow t (.int z) = .int z)
    (hd : decode c.code pc = .ok (.ireturn, 1)) {Q : Option Value → Heap → List Loc → Prop} {C S : Nat} (hC : cells ≤ C) (hS : slots ≤ S) (hq : Q (some (.int z)) T.heap locs) : own_Go p e below (own_Out s Q C S) (T.setTop (mkF m pc Ls [.int z])) := by
  obtain ⟨fs, hr, hrun, hended, hW, hsame⟩ := X.leave (v := some (.int z)) (fun h => by rw [hret] at h; cases h)
  exact ⟨_, _, X.ireturnOut hx hret hn hti hd hr, hrun, hended, _, _, rfl, hq, ⟨_, rfl⟩, hW, hsame.mono hC hS⟩
theorem own_lret (X : Stand p l e R s m args below meth c T locs cells slots) (hx : p.tables.exec = Jvm.exec) (hlk : meth.locks = false) (hret : meth.sig.returnType = some .long) {pc : Nat} {Ls : Array Slot} {z : Int64}
    (hd : decode c.code pc = .ok (.lreturn, 1)) {Q : Option Value → Heap → List Loc → Prop} {C S : Nat} (hC : cells ≤ C) (hS : slots ≤ S) (hq : Q (some (.long z)) T.heap locs) : own_Go p e below (own_Out s Q C S) (T.setTop (mkF m pc Ls [.long z])) := by
  obtain ⟨fs, hr, hrun, hended, hW, hsame⟩ := X.leave (v := some (.long z)) (fun h => by rw [hret] at h; cases h)
  exact ⟨_, _, X.lreturnOut hx hret hd hr, hrun, hended, _, _, rfl, hq, ⟨_, rfl⟩, hW, hsame.mono hC hS⟩
theorem own_aret (X : Stand p l e R s m args below meth c T locs cells slots) (hx : p.tables.exec = Jvm.exec) (hlk : meth.locks = false) {t : FieldType} (hret : meth.sig.returnType = some t) (ht : t.isReference = true) {pc : Nat} {Ls : Array Slot} {w : Value} (hw : w.isRef = true)
    (hd : decode c.code pc = .ok (.areturn, 1)) {Q : Option Value → Heap → List Loc → Prop} {C S : Nat} (hC : cells ≤ C) (hS : slots ≤ S) (hq : Q (some w) T.heap locs) : own_Go p e below (own_Out s Q C S) (T.setTop (mkF m pc Ls [w])) := by
  obtain ⟨fs, hr, hrun, hended, hW, hsame⟩ := X.leave (v := some w) (fun h => by rw [hret] at h; cases h)
  exact ⟨_, _, X.areturnOut hx hw hret ht hd hr, hrun, hended, _, _, rfl, hq, ⟨_, rfl⟩, hW, hsame.mono hC hS⟩
theorem own_vret (X : Stand p l e R s m args below meth c T locs cells slots) (hx : p.tables.exec = Jvm.exec) (hlk : meth.locks = false) (hret : meth.sig.returnType = none) {pc : Nat} {Ls : Array Slot}
    (hd : decode c.code pc = .ok (.return_, 1)) {Q : Option Value → Heap → List Loc → Prop} {C S : Nat} (hC : cells ≤ C) (hS : slots ≤ S) (hq : Q none T.heap locs) : own_Go p e below (own_Out s Q C S) (T.setTop (mkF m pc Ls [])) := by
  obtain ⟨fs, hr, hrun, hended, hW, hsame⟩ := X.leave (v := none) (fun _ => rfl)
  exact ⟨_, _, X.returnOut hx hret hd hr, hrun, hended, _, _, rfl, hq, ⟨_, rfl⟩, hW, hsame.mono hC hS⟩
/-! a body that leaves the heap alone -/
def own_PQ (h0 : Heap) (w : Value) (v : Option Value) (h : Heap) (L : List Loc) : Prop := v = some w ∧ h = h0 ∧ L = []
theorem own_iteI {C : Prop} [Decidable C] {a b : Int32} {k n : Nat} {A : State} (h1 : C → own_Go p e below (own_Out s (own_PQ h0 (.int a)) k n) A) (h2 : ¬ C → own_Go p e below (own_Out s (own_PQ h0 (.int b)) k n) A) : own_Go p e below (own_Out s (own_PQ h0 (.int (if C then a else b))) k n) A := by
  by_cases q : C
  · rw [if_pos q]; exact h1 q
  · rw [if_neg q]; exact h2 q
theorem own_iteL {C : Prop} [Decidable C] {a b : Int64} {k n : Nat} {A : State} (h1 : C → own_Go p e below (own_Out s (own_PQ h0 (.long a)) k n) A) (h2 : ¬ C → own_Go p e below (own_Out s (own_PQ h0 (.long b)) k n) A) : own_Go p e below (own_Out s (own_PQ h0 (.long (if C then a else b))) k n) A := by
  by_cases q : C
  · rw [if_pos q]; exact h1 q
  · rw [if_neg q]; exact h2 q
/-! calls -/
theorem own_callS (X : Stand p l e R s m args below meth c T locs cells slots) (hx : p.tables.exec = Jvm.exec) (hZ : Z.Warmed39 s.vm) {own : String} (hown : s.vm.findClass own = some m.cls) {index : Nat} {y : MethodName} {bytes : ByteArray} {maxL : Nat} {ret : Option FieldType} {rm : Room} {argsL rest : List Value} {Q : Option Value → Heap → List Loc → Prop}
    (hM : own_Con l Z y bytes maxL ret rm argsL.toArray h Q []) (eT : T.heap = h) (wl : (Jvm.Cond.methodLink own index y).before a0 Z = true) (wst : (Jvm.Cond.static y).before a0 Z = true) (wz : (Jvm.Cond.initialized y.cls).before a0 Z = true) (wc : (Jvm.Cond.code y bytes maxL ret).before a0 Z = true) (hy : y.cls ≠ "java/lang/invoke/MethodHandle" ∧ y.cls ≠ "java/lang/invoke/VarHandle")
    {sig : MethodDescriptor} (hpd : parseMethodDescriptor y.desc = some sig) (hlen : argsL.length = sig.parameters.length) {g : JFrame} (hg : g.method = m) (hsize : g.locals.size = c.maxLocals) (hstack : g.stack = argsL.reverse ++ rest) (W : Nat) (hW : 2 * g.monitorRoom + (rest.map fun v => v.category).sum ≤ W) (hdg : decode c.code g.pc = .ok (.invokestatic index, 3))
    (hf : rm.frames + 1 ≤ R.frames) (hl : W + (maxL + 11) + rm.locals ≤ R.locals) (hcs : cells + rm.cells ≤ R.cells) (hss : slots + rm.slots ≤ R.slots) :
    ∃ (v : Option Value) (T' : State) (L : List Loc), Stand p l e R s m args below meth c T' (locs ++ L) (cells + rm.cells) (slots + rm.slots) ∧ Q v T'.heap L ∧ ∀ t, Steps p.tables e below (T'.setTop { g with pc := g.pc + 3, stack := v.toList ++ rest }) t → Steps p.tables e below (T.setTop g) t := by
  obtain ⟨v, _, ⟨T', L', k', n'⟩, -, X', ⟨L, hQ, q1, q2, q3⟩, st⟩ := Jvm.LawKit.callS X hx hown (mvT hZ wl) (mvT hZ wst) (mvT hZ wz) (mvT hZ wc) hy (backOf (W := W) hM hZ wc wz hf hl) hg hsize (argsL := argsL) (rest := rest) (fun sg hsg => by rw [hpd] at hsg; cases hsg; exact hlen) hstack hW hdg (fun _ _ => ⟨rfl, eT, hcs, hss⟩)
  dsimp only [Pt.U, Pt.locs, Pt.cells, Pt.slots] at X' q1 q2 q3 st hQ
  subst q1 q2 q3
  exact ⟨v, T', L, X', hQ, st⟩
theorem own_callSP (X : Stand p l e R s m args below meth c T locs cells slots) (hx : p.tables.exec = Jvm.exec) (hZ : Z.Warmed39 s.vm) {own : String} (hown : s.vm.findClass own = some m.cls) {index : Nat} {y : MethodName} {bytes : ByteArray} {maxL : Nat} {ret : Option FieldType} {rm : Room} {argsL rest : List Value} {w : Value}
    (hM : own_Con l Z y bytes maxL ret rm argsL.toArray h (own_PQ h w) []) (eT : T.heap = h) (wl : (Jvm.Cond.methodLink own index y).before a0 Z = true) (wst : (Jvm.Cond.static y).before a0 Z = true) (wz : (Jvm.Cond.initialized y.cls).before a0 Z = true) (wc : (Jvm.Cond.code y bytes maxL ret).before a0 Z = true) (hy : y.cls ≠ "java/lang/invoke/MethodHandle" ∧ y.cls ≠ "java/lang/invoke/VarHandle")
    {sig : MethodDescriptor} (hpd : parseMethodDescriptor y.desc = some sig) (hlen : argsL.length = sig.parameters.length) {g : JFrame} (hg : g.method = m) (hsize : g.locals.size = c.maxLocals) (hstack : g.stack = argsL.reverse ++ rest) (W : Nat) (hW : 2 * g.monitorRoom + (rest.map fun v => v.category).sum ≤ W) (hdg : decode c.code g.pc = .ok (.invokestatic index, 3))
    (hf : rm.frames + 1 ≤ R.frames) (hl : W + (maxL + 11) + rm.locals ≤ R.locals) (hrc : rm.cells = 0) (hrs : rm.slots = 0) (hcs : cells ≤ R.cells) (hss : slots ≤ R.slots) :
    ∃ (T' : State), Stand p l e R s m args below meth c T' locs cells slots ∧ T'.heap = h ∧ ∀ t, Steps p.tables e below (T'.setTop { g with pc := g.pc + 3, stack := w :: rest }) t → Steps p.tables e below (T.setTop g) t := by
  obtain ⟨v, T', L, X', ⟨rfl, q2, rfl⟩, st⟩ := own_callS X hx hZ hown hM eT wl wst wz wc hy hpd hlen hg hsize hstack W hW hdg hf hl (by omega) (by omega)
  rw [List.append_nil, hrc, hrs] at X'
  exact ⟨T', X', q2, st⟩
theorem own_callI (X : Stand p l e R s m args below meth c T locs cells slots) (hx : p.tables.exec = Jvm.exec) (hZ : Z.Warmed39 s.vm) {own : String} (hown : s.vm.findClass own = some m.cls) {index : Nat} {y : MethodName} (hy1 : y.name = "<init>") {bytes : ByteArray} {maxL : Nat} {rm : Room} {b : Addr} {argsL rest : List Value} {Q : Option Value → Heap → List Loc → Prop}
    (hM : own_Con l Z y bytes maxL none rm (Value.ref b :: argsL).toArray h Q []) (eT : T.heap = h) (wl : (Jvm.Cond.methodLink own index y).before a0 Z = true) (wi : (Jvm.Cond.instanceMethod y).before a0 Z = true) (wz : (Jvm.Cond.initialized y.cls).before a0 Z = true) (wc : (Jvm.Cond.code y bytes maxL none).before a0 Z = true) (hy : y.cls ≠ "java/lang/invoke/MethodHandle" ∧ y.cls ≠ "java/lang/invoke/VarHandle")
    {sig : MethodDescriptor} (hpd : parseMethodDescriptor y.desc = some sig) (hlen : argsL.length = sig.parameters.length) {g : JFrame} (hg : g.method = m) (hsize : g.locals.size = c.maxLocals) (hstack : g.stack = argsL.reverse ++ .ref b :: rest) (W : Nat) (hW : 2 * g.monitorRoom + (rest.map fun v => v.category).sum ≤ W) (hdg : decode c.code g.pc = .ok (.invokespecial index, 3))
    (hf : rm.frames + 1 ≤ R.frames) (hl : W + (maxL + 11) + rm.locals ≤ R.locals) (hcs : cells + rm.cells ≤ R.cells) (hss : slots + rm.slots ≤ R.slots) :
    ∃ (v : Option Value) (T' : State) (L : List Loc), Stand p l e R s m args below meth c T' (locs ++ L) (cells + rm.cells) (slots + rm.slots) ∧ Q v T'.heap L ∧ ∀ t, Steps p.tables e below (T'.setTop { g with pc := g.pc + 3, stack := v.toList ++ rest }) t → Steps p.tables e below (T.setTop g) t := by
  obtain ⟨v, _, ⟨T', L', k', n'⟩, -, X', ⟨L, hQ, q1, q2, q3⟩, st⟩ := X.specialBack hx hy1 hown (mvT hZ wl) (mvT hZ wi) (mvT hZ wc) hy (backOf (W := W) hM hZ wc wz hf hl) hg hsize (Steps.refl _) (a := b) (argsL := argsL) (rest := rest) (fun sg hsg => by rw [hpd] at hsg; cases hsg; exact hlen) hstack hW hdg (fun _ _ => ⟨rfl, eT, hcs, hss⟩)
  dsimp only [Pt.U, Pt.locs, Pt.cells, Pt.slots] at X' q1 q2 q3 st hQ
  subst q1 q2 q3
  exact ⟨v, T', L, X', hQ, fun _ k => st.trans k⟩
theorem own_callV (X : Stand p l e R s m args below meth c T locs cells slots) (hx : p.tables.exec = Jvm.exec) (hZ : Z.Warmed39 s.vm) {own C : String} (hown : s.vm.findClass own = some m.cls) {index : Nat} {y z : MethodName} {bytes : ByteArray} {maxL : Nat} {ret : Option FieldType} {rm : Room} {b : Addr} {argsL rest : List Value} {Q : Option Value → Heap → List Loc → Prop}
    (hM : own_Con l Z z bytes maxL ret rm (Value.ref b :: argsL).toArray h Q []) (eT : T.heap = h) (hE : Exa Z h b C) (wl : (Jvm.Cond.methodLink own index y).before a0 Z = true) (wd : (Jvm.Cond.declares y).before a0 Z = true) (wsel : (Jvm.Cond.selects C y z).before a0 Z = true) (wi : (Jvm.Cond.instanceMethod z).before a0 Z = true) (wz : (Jvm.Cond.initialized z.cls).before a0 Z = true) (wc : (Jvm.Cond.code z bytes maxL ret).before a0 Z = true) (hnf : NotFace s y) (hy : y.cls ≠ "java/lang/invoke/MethodHandle" ∧ y.cls ≠ "java/lang/invoke/VarHandle")
    {sig : MethodDescriptor} (hpd : parseMethodDescriptor y.desc = some sig) (hlen : argsL.length = sig.parameters.length) {g : JFrame} (hg : g.method = m) (hsize : g.locals.size = c.maxLocals) (hstack : g.stack = argsL.reverse ++ .ref b :: rest) (W : Nat) (hW : 2 * g.monitorRoom + (rest.map fun v => v.category).sum ≤ W) (hdg : decode c.code g.pc = .ok (.invokevirtual index, 3))
    (hf : rm.frames + 1 ≤ R.frames) (hl : W + (maxL + 11) + rm.locals ≤ R.locals) (hcs : cells + rm.cells ≤ R.cells) (hss : slots + rm.slots ≤ R.slots) :
    ∃ (v : Option Value) (T' : State) (L : List Loc), Stand p l e R s m args below meth c T' (locs ++ L) (cells + rm.cells) (slots + rm.slots) ∧ Q v T'.heap L ∧ ∀ t, Steps p.tables e below (T'.setTop { g with pc := g.pc + 3, stack := v.toList ++ rest }) t → Steps p.tables e below (T.setTop g) t := by
  obtain ⟨cq, kq, qa, qb, qc⟩ := isOf hZ eT hE
  obtain ⟨v, _, ⟨T', L', k', n'⟩, -, X', ⟨L, hQ, q1, q2, q3⟩, st⟩ := X.virtualBack hx hown (mvT hZ wl) (mvT hZ wd) hnf (mvT hZ wsel) (mvT hZ wi) hy (backOf (W := W) hM hZ wc wz hf hl) qa qc hg hsize (Steps.refl _) (argsL := argsL) (rest := rest) (fun sg hsg => by rw [hpd] at hsg; cases hsg; exact hlen) hstack hW hdg (fun _ _ => ⟨rfl, eT, hcs, hss⟩)
  dsimp only [Pt.U, Pt.locs, Pt.cells, Pt.slots] at X' q1 q2 q3 st hQ
  subst q1 q2 q3
  exact ⟨v, T', L, X', hQ, fun _ k => st.trans k⟩
theorem own_callP (X : Stand p l e R s m args below meth c T locs cells slots) (hx : p.tables.exec = Jvm.exec) (hZ : Z.Warmed39 s.vm) {own C : String} (hown : s.vm.findClass own = some m.cls) {index kk : Nat} {y : MethodName} {bytes : ByteArray} {maxL : Nat} {ret : Option FieldType} {rm : Room} {b : Addr} {argsL rest : List Value} {Q : Option Value → Heap → List Loc → Prop}
    (hM : own_Con l Z y bytes maxL ret rm (Value.ref b :: argsL).toArray h Q []) (eT : T.heap = h) (hE : Exa Z h b C) (wl : (Jvm.Cond.methodLink own index y).before a0 Z = true) (wi : (Jvm.Cond.instanceMethod y).before a0 Z = true) (wp : (Jvm.Cond.privateMethod y).before a0 Z = true) (wn : (Jvm.Cond.instantiable y.cls kk).before a0 Z = true) (wz : (Jvm.Cond.initialized y.cls).before a0 Z = true) (wc : (Jvm.Cond.code y bytes maxL ret).before a0 Z = true) (hy : y.cls ≠ "java/lang/invoke/MethodHandle" ∧ y.cls ≠ "java/lang/invoke/VarHandle")
    {sig : MethodDescriptor} (hpd : parseMethodDescriptor y.desc = some sig) (hlen : argsL.length = sig.parameters.length) {g : JFrame} (hg : g.method = m) (hsize : g.locals.size = c.maxLocals) (hstack : g.stack = argsL.reverse ++ .ref b :: rest) (W : Nat) (hW : 2 * g.monitorRoom + (rest.map fun v => v.category).sum ≤ W) (hdg : decode c.code g.pc = .ok (.invokevirtual index, 3))
    (hf : rm.frames + 1 ≤ R.frames) (hl : W + (maxL + 11) + rm.locals ≤ R.locals) (hcs : cells + rm.cells ≤ R.cells) (hss : slots + rm.slots ≤ R.slots) :
    ∃ (v : Option Value) (T' : State) (L : List Loc), Stand p l e R s m args below meth c T' (locs ++ L) (cells + rm.cells) (slots + rm.slots) ∧ Q v T'.heap L ∧ ∀ t, Steps p.tables e below (T'.setTop { g with pc := g.pc + 3, stack := v.toList ++ rest }) t → Steps p.tables e below (T.setTop g) t := by
  obtain ⟨cq, q, q'⟩ := hE.cell
  have hp := Cond.privateMethod_at (mvP hZ wp (args := #[]))
  have hn : (Jvm.Cond.instantiable y.cls kk).before args s = true := mvT hZ wn
  obtain ⟨c2, k2, i1, i2, i3, i4, -⟩ := Cond.instantiable_spec hn
  have hsel : (Jvm.Cond.selects y.cls y y).before args s = true := selects_self_of_private i1 i2 (Bool.or_eq_false_iff.mp i4).1 hp (mvT hZ wi) hy
  obtain ⟨v, _, ⟨T', L', k', n'⟩, -, X', ⟨L, hQ, q1, q2, q3⟩, st⟩ := X.privateBack hx hown (mvT hZ wl) (mvT hZ wi) hsel hp (mvT hZ wc) hy (backOf (W := W) hM hZ wc wz hf hl) hg hsize (Steps.refl _) (a := b) (by rw [eT]; exact q) q' (argsL := argsL) (rest := rest) (fun sg hsg => by rw [hpd] at hsg; cases hsg; exact hlen) hstack hW hdg (fun _ _ => ⟨rfl, eT, hcs, hss⟩)
  dsimp only [Pt.U, Pt.locs, Pt.cells, Pt.slots] at X' q1 q2 q3 st hQ
  subst q1 q2 q3
  exact ⟨v, T', L, X', hQ, fun _ k => st.trans k⟩
theorem own_pn {y : MethodName} (hq : plainName y.cls = true) : plainFor y = true := plainFor_of_name hq
end OwnKit
section OwnArr
variable {p : Program} {l : Launch} {e : Env} {R : Room} {s : State} {m : MethodId} {args : Array Value} {below : List Frame} {meth : Method} {c : Code} {T : State} {locs : List Loc} {cells slots : Nat} {Z : State} {a0 : Array Value} {h h' h0 : Heap} {a b : Addr} {ty : FieldType} {vs : List Value} {v : Value} {i sl : Nat} {ws : List Addr}
/-- an array of ty's at a, its components vs -/
def own_AV (Z : State) (h : Heap) (a : Addr) (ty : FieldType) (vs : List Value) : Prop := ∃ c : Cell, Arr Z h a c ty ∧ c.slots.toList = vs ∧ vs.length < 2147483648 ∧ ∀ v ∈ vs, fits ty v = true
theorem own_AV.lt (A : own_AV Z h a ty vs) : a < h.size := by obtain ⟨c, q, -⟩ := A; exact q.lt
theorem own_AV.short (A : own_AV Z h a ty vs) : vs.length < 2147483648 := by obtain ⟨c, -, -, q, -⟩ := A; exact q
theorem own_AV.ext (A : own_AV Z h a ty vs) (E : Ext h h') : own_AV Z h' a ty vs := by obtain ⟨c, q, r⟩ := A; exact ⟨c, q.ext E, r⟩
theorem own_AV.other (A : own_AV Z h b ty vs) (W : Wr h h' a sl v) (q : b ≠ a) : own_AV Z h' b ty vs := by obtain ⟨c, k, r⟩ := A; exact ⟨c, k.other W q, r⟩
theorem own_AV.keep (A : own_AV Z h a ty vs) (K : Keep h h' ws) (q : a ∉ ws) : own_AV Z h' a ty vs := by obtain ⟨c, k, r⟩ := A; exact ⟨c, ⟨K.2.1 a c k.1 q, k.2⟩, r⟩
theorem own_AV.set (A : own_AV Z h a ty vs) (W : Wr h h' a i v) (hv : fits ty v = true) : own_AV Z h' a ty (vs.set i v) := by
  obtain ⟨c, k, r, z, f⟩ := A
  refine ⟨c.setSlot i v, k.same W, ?_, by rw [List.length_set]; exact z, fun u hu => ?_⟩
  · show (c.slots.setIfInBounds i v).toList = _
    rw [Array.toList_setIfInBounds, r]
  · rcases List.mem_or_eq_of_mem_set hu with q | q
    · exact f u q
    · rw [q]; exact hv
theorem own_idx {j : Int32} {i : Nat} (hj : j.toInt = i) : ¬ j < 0 ∧ j.toNatClampNeg = i := by
  refine ⟨?_, ?_⟩
  · rw [Int32.lt_iff_toInt_lt, hj]; show ¬ (i : Int) < 0; omega
  · simp only [Int32.toNatClampNeg, hj]; rfl
theorem own_AV_new {cA : ClassId} {n : Int32} {k : Nat} (A : Arr Z h a (newA cA ty n) ty) (hn : n.toInt = k) : own_AV Z h a ty (List.replicate k (defaultValue ty)) := by
  obtain ⟨q1, q2⟩ := own_idx hn
  refine ⟨_, A, ?_, ?_, fun v hv => ?_⟩
  · show (Array.replicate n.toNatClampNeg _).toList = _
    rw [q2, Array.toList_replicate]
  · rw [List.length_replicate]
    have := n.toInt_lt
    omega
  · rw [(List.mem_replicate.mp hv).2]; cases ty <;> rfl
theorem own_newA (X : Stand p l e R s m args below meth c T locs cells slots) (hx : p.tables.exec = Jvm.exec) (hZ : Z.Warmed39 s.vm) {aty : ArrayType} (w : (Jvm.Cond.arrayClass (newarray.typeOf aty)).before a0 Z = true) (eT : T.heap = h) {g : JFrame} (hg : g.method = m) (hd : decode c.code g.pc = .ok (.newarray aty, 2)) {n : Int32} {rest : List Value} (hs : g.stack = .int n :: rest)
    (k cap : Nat) (hn : n.toInt = k) (hk : k ≤ cap) (hb : cap * 8 ≤ 536870912) (hc : cells + 1 ≤ R.cells) (hl : slots + cap ≤ R.slots) :
    ∃ T' h', Stand p l e R s m args below meth c T' locs (cells + 1) (slots + cap) ∧ T'.heap = h' ∧ Ext h h' ∧ own_AV Z h' h.size (newarray.typeOf aty) (List.replicate k (defaultValue (newarray.typeOf aty))) ∧ ∀ t, Steps p.tables e below (T'.setTop { g with pc := g.pc + 2, stack := .ref h.size :: rest }) t → Steps p.tables e below (T.setTop g) t := by
  obtain ⟨q1, q2⟩ := own_idx hn
  obtain ⟨T', h', cA, X', e', E, A, st⟩ := newP X hx hZ w eT hg hd hs q1 (cap := cap) (by rw [q2]; exact hk) hb hc hl
  exact ⟨T', h', X', e', E, own_AV_new A hn, st⟩
theorem own_stI (X : Stand p l e R s m args below meth c T locs cells slots) (hx : p.tables.exec = Jvm.exec) (hZ : Z.Warmed39 s.vm) (eT : T.heap = h) (A : own_AV Z h a .int vs) {j x : Int32} {g : JFrame} (hg : g.method = m) {rest : List Value} (hs : g.stack = .int x :: .int j :: .ref a :: rest) (hd : decode c.code g.pc = .ok (.iastore, 1)) (i : Nat) (hj : j.toInt = i) (hi : i < vs.length) :
    ∃ T' h', Stand p l e R s m args below meth c T' (locs ++ [⟨a, i⟩]) cells slots ∧ T'.heap = h' ∧ Wr h h' a i (.int x) ∧ own_AV Z h' a .int (vs.set i (.int x)) ∧ ∀ t, Steps p.tables e below (T'.setTop { g with pc := g.pc + 1, stack := rest }) t → Steps p.tables e below (T.setTop g) t := by
  obtain ⟨q1, q2⟩ := own_idx hj
  have A' := A
  obtain ⟨cl, k, r, -, -⟩ := A
  have hz : cl.slots.size = vs.length := by rw [← r]; simp
  obtain ⟨T', h', X', e', W, st⟩ := stI X hx hZ eT k (j := j) (x := x) (by rw [q2, hz]; exact fun u => u.elim q1 (fun z => by omega)) hg hs hd
  rw [q2] at X' W
  exact ⟨T', h', X', e', W, A'.set W rfl, st⟩
theorem own_stJ (X : Stand p l e R s m args below meth c T locs cells slots) (hx : p.tables.exec = Jvm.exec) (hZ : Z.Warmed39 s.vm) (eT : T.heap = h) (A : own_AV Z h a .long vs) {j : Int32} {x : Int64} {g : JFrame} (hg : g.method = m) {rest : List Value} (hs : g.stack = .long x :: .int j :: .ref a :: rest) (hd : decode c.code g.pc = .ok (.lastore, 1)) (i : Nat) (hj : j.toInt = i) (hi : i < vs.length) :
    ∃ T' h', Stand p l e R s m args below meth c T' (locs ++ [⟨a, i⟩]) cells slots ∧ T'.heap = h' ∧ Wr h h' a i (.long x) ∧ own_AV Z h' a .long (vs.set i (.long x)) ∧ ∀ t, Steps p.tables e below (T'.setTop { g with pc := g.pc + 1, stack := rest }) t → Steps p.tables e below (T.setTop g) t := by
  obtain ⟨q1, q2⟩ := own_idx hj
  have A' := A
  obtain ⟨cl, k, r, -, -⟩ := A
  have hz : cl.slots.size = vs.length := by rw [← r]; simp
  obtain ⟨T', h', X', e', W, st⟩ := stJ X hx hZ eT k (j := j) (x := x) (by rw [q2, hz]; exact fun u => u.elim q1 (fun z => by omega)) hg hs hd
  rw [q2] at X' W
  exact ⟨T', h', X', e', W, A'.set W rfl, st⟩
theorem own_ldI (X : Stand p l e R s m args below meth c T locs cells slots) (hx : p.tables.exec = Jvm.exec) (hZ : Z.Warmed39 s.vm) (eT : T.heap = h) (A : own_AV Z h a .int vs) {j : Int32} {g : JFrame} (hg : g.method = m) {rest : List Value} (hs : g.stack = .int j :: .ref a :: rest) (hd : decode c.code g.pc = .ok (.iaload, 1)) (i : Nat) (hj : j.toInt = i) {x : Value} (hi : vs[i]? = some x) :
    ∀ t, Steps p.tables e below (T.setTop { g with pc := g.pc + 1, stack := x :: rest }) t → Steps p.tables e below (T.setTop g) t := by
  obtain ⟨q1, q2⟩ := own_idx hj
  obtain ⟨cl, k, r, -, -⟩ := A
  have hz : cl.slots.size = vs.length := by rw [← r]; simp
  have hv : cl.slots[i]? = some x := by rw [← Array.getElem?_toList, r]; exact hi
  have hl := (List.getElem?_eq_some_iff.mp hi).1
  exact X.iaload hx (by rw [eT]; exact k.1) (State.isArrayOf_alike hZ.alike k.2.1) k.2.2 (by rw [q2, hz]; exact fun u => u.elim q1 (fun z => by omega)) (by rw [q2]; exact hv) hg hs hd
theorem own_ldJ (X : Stand p l e R s m args below meth c T locs cells slots) (hx : p.tables.exec = Jvm.exec) (hZ : Z.Warmed39 s.vm) (eT : T.heap = h) (A : own_AV Z h a .long vs) {j : Int32} {g : JFrame} (hg : g.method = m) {rest : List Value} (hs : g.stack = .int j :: .ref a :: rest) (hd : decode c.code g.pc = .ok (.laload, 1)) (i : Nat) (hj : j.toInt = i) {x : Value} (hi : vs[i]? = some x) :
    ∀ t, Steps p.tables e below (T.setTop { g with pc := g.pc + 1, stack := x :: rest }) t → Steps p.tables e below (T.setTop g) t := by
  obtain ⟨q1, q2⟩ := own_idx hj
  obtain ⟨cl, k, r, -, -⟩ := A
  have hz : cl.slots.size = vs.length := by rw [← r]; simp
  have hv : cl.slots[i]? = some x := by rw [← Array.getElem?_toList, r]; exact hi
  have hl := (List.getElem?_eq_some_iff.mp hi).1
  exact X.laload hx (by rw [eT]; exact k.1) (State.isArrayOf_alike hZ.alike k.2.1) k.2.2 (by rw [q2, hz]; exact fun u => u.elim q1 (fun z => by omega)) (by rw [q2]; exact hv) hg hs hd
theorem own_len (X : Stand p l e R s m args below meth c T locs cells slots) (hx : p.tables.exec = Jvm.exec) (hZ : Z.Warmed39 s.vm) (eT : T.heap = h) (A : own_AV Z h a ty vs) {g : JFrame} (hg : g.method = m) {rest : List Value} (hs : g.stack = .ref a :: rest) (hd : decode c.code g.pc = .ok (.arraylength, 1)) (n : Int32) (hn : n.toInt = vs.length) :
    ∀ t, Steps p.tables e below (T.setTop { g with pc := g.pc + 1, stack := .int n :: rest }) t → Steps p.tables e below (T.setTop g) t := by
  obtain ⟨cl, k, r, z, -⟩ := A
  have hz : cl.slots.size = vs.length := by rw [← r]; simp
  have en : cl.slots.size.toInt32 = n := Int32.toInt_inj.mp (by rw [hn, hz]; exact len_toInt z)
  intro t q
  refine X.arraylength hx (by rw [eT]; exact k.1) (State.isArrayOf_alike hZ.alike k.2.1) hg hs hd t ?_
  rw [en]; exact q
theorem own_newAE (X : Stand p l e R s m args below meth c T locs cells slots) (hx : p.tables.exec = Jvm.exec) (hZ : Z.Warmed39 s.vm) {aty : ArrayType} (w : (Jvm.Cond.arrayClass (newarray.typeOf aty)).before a0 Z = true) (eT : T.heap = h) {g : JFrame} (hg : g.method = m) (hd : decode c.code g.pc = .ok (.newarray aty, 2)) {n : Int32} {rest : List Value} (hs : g.stack = .int n :: rest)
    (k cap : Nat) (hn : n.toInt = k) (hk : k ≤ cap) (hb : cap * 8 ≤ 536870912) (hc : cells + 1 ≤ R.cells) (hl : slots + cap ≤ R.slots) {ad : String} (had : "[" ++ (newarray.typeOf aty).toString = ad) :
    ∃ T' h', Stand p l e R s m args below meth c T' locs (cells + 1) (slots + cap) ∧ T'.heap = h' ∧ Ext h h' ∧ own_AV Z h' h.size (newarray.typeOf aty) (List.replicate k (defaultValue (newarray.typeOf aty))) ∧ Exa Z h' h.size ad ∧ ∀ t, Steps p.tables e below (T'.setTop { g with pc := g.pc + 2, stack := .ref h.size :: rest }) t → Steps p.tables e below (T.setTop g) t := by
  obtain ⟨q1, q2⟩ := own_idx hn
  obtain ⟨T', h', cA, X', e', E, A, C, st⟩ := newPE X hx hZ w eT hg hd hs q1 (cap := cap) (by rw [q2]; exact hk) hb hc hl had
  exact ⟨T', h', X', e', E, own_AV_new A hn, C, st⟩
theorem own_AV.arv (A : own_AV Z h a ty vs) {z : Int32} (hz : z.toInt = vs.length) (dv : Value) : ∃ k, Arv Z h a k ty z vs dv := by
  obtain ⟨q1, q2⟩ := own_idx hz
  obtain ⟨cl, k, r, -, f⟩ := A
  have hs : cl.slots.size = vs.length := by rw [← r]; simp
  refine ⟨cl.cls, cl, k, rfl, by rw [hs, q2], q1, fun i hi => ?_, fun i hi => ?_⟩
  · rw [← Array.getElem?_toList, r, List.getD_eq_getElem?_getD, List.getElem?_eq_getElem (by omega)]; rfl
  · rw [List.getD_eq_getElem?_getD, List.getElem?_eq_getElem (by omega)]; exact f _ (List.getElem_mem _)
theorem own_arv {k : ClassId} {z : Int32} {dv : Value} (F : Arv Z h a k ty z vs dv) (hl : vs.length = z.toNatClampNeg) : own_AV Z h a ty vs := by
  obtain ⟨cl, A, -, S, q, H, G⟩ := F
  have hs : cl.slots.size = vs.length := by rw [S, hl]
  have e1 : cl.slots.toList = vs := by
    apply List.ext_getElem?
    intro i
    by_cases hi : i < vs.length
    · have := H i (by omega)
      rw [Array.getElem?_toList, this, List.getD_eq_getElem?_getD, List.getElem?_eq_getElem hi]; rfl
    · rw [List.getElem?_eq_none (l := vs) (by omega), List.getElem?_eq_none (l := cl.slots.toList) (by rw [Array.length_toList]; omega)]
  refine ⟨cl, A, e1, ?_, fun v hv => ?_⟩
  · have := z.toInt_lt
    rw [hl]; simp only [Int32.toNatClampNeg]; omega
  · obtain ⟨i, hi, rfl⟩ := List.getElem_of_mem hv
    have := G i (by omega)
    rw [List.getD_eq_getElem?_getD, List.getElem?_eq_getElem hi] at this
    exact this
theorem own_copy (X : Stand p l e R s m args below meth c T locs cells slots) (hx : p.tables.exec = Jvm.exec) (hZ : Z.Warmed39 s.vm) {own : String} {index : Nat} (hown : s.vm.findClass own = some m.cls)
    (w1 : (Jvm.Cond.methodLink own index Jvm.Stand.acN).before a0 Z = true) (w2 : (Jvm.Cond.native Jvm.Stand.acN).before a0 Z = true) (w3 : (Jvm.Cond.static Jvm.Stand.acN).before a0 Z = true) (w4 : (Jvm.Cond.initialized "java/lang/System").before a0 Z = true) (eT : T.heap = h)
    {us : List Value} (A : own_AV Z h a ty vs) (B : own_AV Z h b ty us) (hp : refKind ty = false) {sp dp nn : Int32} {g : JFrame} (hg : g.method = m) (hsize : g.locals.size = c.maxLocals) {rest : List Value} (hs : g.stack = .int nn :: .int dp :: .ref b :: .int sp :: .ref a :: rest) (hd : decode c.code g.pc = .ok (.invokestatic index, 3))
    (i j n : Nat) (hsp : sp.toInt = i) (hdp : dp.toInt = j) (hn : nn.toInt = n) (h4 : i + n ≤ vs.length) (h5 : j + n ≤ us.length) {n0 : Nat} (N : Fr n0 locs) (ge : n0 ≤ b)
    (W : Nat) (hW : 2 * g.monitorRoom + (rest.map fun v => v.category).sum ≤ W) (hf : 1 ≤ R.frames) (hlo : W + (nativeFrameWords "java/lang/System" "arraycopy" 5 + 11) ≤ R.locals) :
    ∃ T' h' L, Stand p l e R s m args below meth c T' L cells slots ∧ T'.heap = h' ∧ Fr n0 L ∧ Keep h h' [b] ∧ own_AV Z h' b ty (us.take j ++ (vs.drop i).take n ++ us.drop (j + n)) ∧
      ∀ t, Steps p.tables e below (T'.setTop { g with pc := g.pc + 3, stack := rest }) t → Steps p.tables e below (T.setTop g) t := by
  obtain ⟨s1, s2⟩ := own_idx hsp
  obtain ⟨d1, d2⟩ := own_idx hdp
  obtain ⟨n1, n2⟩ := own_idx hn
  have zA := len_toInt A.short
  have zB := len_toInt B.short
  obtain ⟨kA, FA⟩ := A.arv zA .null
  obtain ⟨kB, FB⟩ := B.arv zB .null
  have cA : vs.length.toInt32.toNatClampNeg = vs.length := (own_idx zA).2
  have cB : us.length.toInt32.toNatClampNeg = us.length := (own_idx zB).2
  have hus : (vs.drop i).take n = (List.range nn.toNatClampNeg).map fun q => vs.getD (sp.toNatClampNeg + q) .null := by
    rw [n2, s2]
    apply List.ext_getElem?
    intro q
    by_cases hq : q < n
    · rw [List.getElem?_take_of_lt hq, List.getElem?_drop, List.getElem?_map, List.getElem?_range hq, List.getElem?_eq_getElem (by omega)]
      show some _ = some (vs.getD (i + q) .null)
      rw [List.getD_eq_getElem?_getD, List.getElem?_eq_getElem (by omega)]; rfl
    · rw [List.getElem?_eq_none (by rw [List.length_take]; omega), List.getElem?_eq_none (by simp; omega)]
  obtain ⟨T', h', L, X', e', NL, K, F', st⟩ := cpA X hx hZ hown w1 w2 w3 w4 eT FA FB (Or.inl ⟨rfl, hp⟩) s1 d1 n1 (by rw [s2, n2, cA]; exact h4) (by rw [d2, n2, cB]; exact h5) hus (by rw [d2, n2]; exact h5) N ge hg hsize hs hd hf hW hlo
  rw [d2, n2] at F'
  exact ⟨T', h', L, X', e', NL, K, own_arv F' (by rw [cB]; simp only [List.length_append, List.length_take, List.length_drop]; omega), st⟩
theorem own_clone (X : Stand p l e R s m args below meth c T locs cells slots) (hx : p.tables.exec = Jvm.exec) (hZ : Z.Warmed39 s.vm) {own ad : String} {index : Nat} (hown : s.vm.findClass own = some m.cls)
    (w1 : (Jvm.Cond.methodLink own index ⟨ad, "clone", "()Ljava/lang/Object;"⟩).before a0 Z = true) (w2 : (Jvm.Cond.sameMethod ad "java/lang/Object" "clone" "()Ljava/lang/Object;").before a0 Z = true) (w3 : (Jvm.Cond.native ⟨"java/lang/Object", "clone", "()Ljava/lang/Object;"⟩).before a0 Z = true)
    (w4 : (Jvm.Cond.instanceMethod ⟨"java/lang/Object", "clone", "()Ljava/lang/Object;"⟩).before a0 Z = true) (w5 : (Jvm.Cond.selects ad ⟨ad, "clone", "()Ljava/lang/Object;"⟩ ⟨"java/lang/Object", "clone", "()Ljava/lang/Object;"⟩).before a0 Z = true) (w6 : (Jvm.Cond.castable ad "java/lang/Cloneable").before a0 Z = true)
    (eT : T.heap = h) (A : own_AV Z h a ty vs) (E : Exa Z h a ad) {g : JFrame} (hg : g.method = m) (hsize : g.locals.size = c.maxLocals) {rest : List Value} (hs : g.stack = .ref a :: rest) (hd : decode c.code g.pc = .ok (.invokevirtual index, 3))
    (W cap : Nat) (hW : 2 * g.monitorRoom + (rest.map fun v => v.category).sum ≤ W) (hf : 1 ≤ R.frames) (hl : W + 14 ≤ R.locals) (hcap : vs.length ≤ cap) (hc : cells + 1 ≤ R.cells) (hsl : slots + cap ≤ R.slots) :
    ∃ T' h', Stand p l e R s m args below meth c T' locs (cells + 1) (slots + cap) ∧ T'.heap = h' ∧ Ext h h' ∧ own_AV Z h' h.size ty vs ∧ Exa Z h' h.size ad ∧
      ∀ t, Steps p.tables e below (T'.setTop { g with pc := g.pc + 3, stack := .ref h.size :: rest }) t → Steps p.tables e below (T.setTop g) t := by
  obtain ⟨cl, k, r, z, f⟩ := A
  have hz : cl.slots.size = vs.length := by rw [← r]; simp
  have FC : FitC Z cl := fitC_of k fun i hi v hv => f v (by rw [← r]; exact List.mem_of_getElem? (i := i) (by rw [Array.getElem?_toList]; exact hv))
  obtain ⟨T', h', X', e', E', A', C', st⟩ := cloneA X hx hZ hown w1 w2 w3 w4 w5 w6 eT k E FC hg hsize hs hd hf (W := W) hW hl (cap := cap) (by omega) hc hsl
  exact ⟨T', h', X', e', E', ⟨_, A', r, z, f⟩, C', st⟩
end OwnArr
section OwnDbl
variable {tb : Tables} [Ours tb] {e : Env} {below : List Frame} {T target : State} {m : MethodId} {c : Code} {g : JFrame}
theorem own_i2d (h : At T m c below) (hx : tb.exec = Jvm.exec) (hg : g.method = m) {x : Int32} {rest : List Value} (hd : decode c.code g.pc = .ok (.i2d, 1)) (hs : g.stack = .int x :: rest)
    (hr : Steps tb e below (T.setTop { g with pc := g.pc + 1, stack := .double (FP.i2d x) :: rest }) target) : Steps tb e below (T.setTop g) target := by
  subst hg
  jvm_step h [h.top, hx, hd, hs]
  exact hr
theorem own_l2d (h : At T m c below) (hx : tb.exec = Jvm.exec) (hg : g.method = m) {x : Int64} {rest : List Value} (hd : decode c.code g.pc = .ok (.l2d, 1)) (hs : g.stack = .long x :: rest)
    (hr : Steps tb e below (T.setTop { g with pc := g.pc + 1, stack := .double (FP.l2d x) :: rest }) target) : Steps tb e below (T.setTop g) target := by
  subst hg
  jvm_step h [h.top, hx, hd, hs]
  exact hr
theorem own_dmul (h : At T m c below) (hx : tb.exec = Jvm.exec) (hg : g.method = m) {x y : UInt64} {rest : List Value} (hd : decode c.code g.pc = .ok (.dmul, 1)) (hs : g.stack = .double y :: .double x :: rest) (hn : Jvm.Free.Fl.NoNaN64 (FP.dmul x y))
    (hr : Steps tb e below (T.setTop { g with pc := g.pc + 1, stack := .double (FP.dmul x y) :: rest }) target) : Steps tb e below (T.setTop g) target := by
  subst hg
  jvm_step h [h.top, hx, hd, dmul.wp_number (s := T) (f := g) h.top hs hn]
  exact hr
theorem own_ddiv (h : At T m c below) (hx : tb.exec = Jvm.exec) (hg : g.method = m) {x y : UInt64} {rest : List Value} (hd : decode c.code g.pc = .ok (.ddiv, 1)) (hs : g.stack = .double y :: .double x :: rest) (hn : Jvm.Free.Fl.NoNaN64 (FP.ddiv x y))
    (hr : Steps tb e below (T.setTop { g with pc := g.pc + 1, stack := .double (FP.ddiv x y) :: rest }) target) : Steps tb e below (T.setTop g) target := by
  subst hg
  jvm_step h [h.top, hx, hd, ddiv.wp_number (s := T) (f := g) h.top hs hn]
  exact hr
theorem own_dadd (h : At T m c below) (hx : tb.exec = Jvm.exec) (hg : g.method = m) {x y : UInt64} {rest : List Value} (hd : decode c.code g.pc = .ok (.dadd, 1)) (hs : g.stack = .double y :: .double x :: rest) (hn : Jvm.Free.Fl.NoNaN64 (FP.dadd x y))
    (hr : Steps tb e below (T.setTop { g with pc := g.pc + 1, stack := .double (FP.dadd x y) :: rest }) target) : Steps tb e below (T.setTop g) target := by
  subst hg
  jvm_step h [h.top, hx, hd, dadd.wp_number (s := T) (f := g) h.top hs hn]
  exact hr
theorem own_dsub (h : At T m c below) (hx : tb.exec = Jvm.exec) (hg : g.method = m) {x y : UInt64} {rest : List Value} (hd : decode c.code g.pc = .ok (.dsub, 1)) (hs : g.stack = .double y :: .double x :: rest) (hn : Jvm.Free.Fl.NoNaN64 (FP.dsub x y))
    (hr : Steps tb e below (T.setTop { g with pc := g.pc + 1, stack := .double (FP.dsub x y) :: rest }) target) : Steps tb e below (T.setTop g) target := by
  subst hg
  jvm_step h [h.top, hx, hd, dsub.wp_number (s := T) (f := g) h.top hs hn]
  exact hr
end OwnDbl
section OwnDbl2
variable {p : Program} {l : Launch} {e : Env} {R : Room} {s : State} {m : MethodId} {args : Array Value} {below : List Frame} {meth : Method} {c : Code} {T : State} {locs : List Loc} {cells slots : Nat}
theorem own_dret (X : Stand p l e R s m args below meth c T locs cells slots) (hx : p.tables.exec = Jvm.exec) (hlk : meth.locks = false) (hret : meth.sig.returnType = some .double) {pc : Nat} {Ls : Array Slot} {z : UInt64}
    (hd : decode c.code pc = .ok (.dreturn, 1)) {Q : Option Value → Heap → List Loc → Prop} {C S : Nat} (hC : cells ≤ C) (hS : slots ≤ S) (hq : Q (some (.double z)) T.heap locs) : own_Go p e below (own_Out s Q C S) (T.setTop (mkF m pc Ls [.double z])) := by
  obtain ⟨fs, hr, hrun, hended, hW, hsame⟩ := X.leave (v := some (.double z)) (fun h => by rw [hret] at h; cases h)
  have hm' : T.vm.method? m = some meth := X.method'
  refine ⟨_, _, ?_, hrun, hended, _, _, rfl, hq, ⟨_, rfl⟩, hW, hsame.mono hC hS⟩
  show Steps p.tables e below (T.setTop { method := m, pc := pc, locals := Ls, stack := [.double z], locked := none }) _
  jvm_step X.here [X.here.top, hx, hd, hm', hret, narrow]
  first | (intro acts; rw [hr _ acts rfl rfl rfl]) | rw [hr _ _ rfl rfl rfl]
  exact Steps.refl _
end OwnDbl2
theorem own_fin (n y : Int32) : Jvm.Free.Fl.Fin64 (FP.dmul (FP.i2d n) (FP.i2d y)) := (Jvm.Free.Fl.dmul_mag (Jvm.Free.Fl.i2d_mag n) (Jvm.Free.Fl.i2d_mag y) (by decide) (by decide)).fin (by decide)
theorem own_q (z : Int64) : Jvm.Free.Fl.NoNaN64 (FP.ddiv (FP.l2d z) (4652007308841189376 : UInt64)) := Jvm.Free.Fl.ddiv_out (Jvm.Free.Fl.l2d_fin z).noNaN (by decide) (by unfold Jvm.Free.Fl.Nz64; decide)
theorem d3_0 : decode prog_69_method_15_code 0 = .ok (.aload_n 0, 1) := by decide +kernel
theorem d3_1 : decode prog_69_method_15_code 1 = .ok (.getfield 32, 3) := by decide +kernel
theorem d3_4 : decode prog_69_method_15_code 4 = .ok (.lload_n 1, 1) := by decide +kernel
theorem d3_5 : decode prog_69_method_15_code 5 = .ok (.l2d, 1) := by decide +kernel
theorem d3_6 : decode prog_69_method_15_code 6 = .ok (.ldc2_w 66, 3) := by decide +kernel
theorem d3_9 : decode prog_69_method_15_code 9 = .ok (.ddiv, 1) := by decide +kernel
theorem d3_10 : decode prog_69_method_15_code 10 = .ok (.dadd, 1) := by decide +kernel
theorem d3_11 : decode prog_69_method_15_code 11 = .ok (.dreturn, 1) := by decide +kernel
set_option maxRecDepth 65536 in
set_option maxHeartbeats 40000000 in
theorem own_into_con (l : Launch) (Z : State) (a0 : Array Value) (hw : ∀ d ∈ tables_1, d.before a0 Z = true) (a : Addr) (d : UInt64) (z : Int64) (h0 : Heap) (fw : Fld Z h0 a "com/example/meter_for_logs/meterforlogs/SampleWindow" "wholeSampleSeconds" "D" (.double d)) (hd : Jvm.Free.Fl.Fin64 d) (ws : List Jvm.Cond) :
    own_Con l Z (⟨"com/example/meter_for_logs/meterforlogs/SampleWindow", "secondsInto", "(J)D"⟩ : MethodName) prog_69_method_15_code 3 (some .double) ({ frames := 0, cells := 0, slots := 0, locals := 0 } : Room) #[(.ref a), (.long z)] h0 (own_PQ h0 (.double (FP.dadd d (FP.ddiv (FP.l2d z) (4652007308841189376 : UInt64))))) ws := by
  refine own_con (F := fun m => (mkF m 0 #[.val (.ref a), .val (.long z), .second] [])) (own_pn (by first | (simp [plainName, overriddenIn]; done) | decide +kernel)) (fun m => by first | (simp [entryFrame, mkF, argsToLocals, Value.category]; done) | rfl) ?_
  intro p e s m below meth c T X hx hby hml hZ hown hnm hret hlk eT
  show own_Go p e below (own_Out s (own_PQ h0 (.double (FP.dadd d (FP.ddiv (FP.l2d z) (4652007308841189376 : UInt64))))) ({ frames := 0, cells := 0, slots := 0, locals := 0 } : Room).cells ({ frames := 0, cells := 0, slots := 0, locals := 0 } : Room).slots) (T.setTop (mkF m 0 #[.val (.ref a), .val (.long z), .second] []))
  refine own_go (fun _ => XS.aloadN X.here hx rfl (hb hby d3_0) rfl rfl) ?_
  show own_Go p e below _ (T.setTop (mkF m 1 #[.val (.ref a), .val (.long z), .second] [(.ref a)]))
  obtain ⟨T1, X1, e1, st1⟩ := getF X hx hZ hown (host := "") (Or.inl (hw _ (List.mem_of_getElem? (i := 18) rfl))) Via.refl eT fw (g := (mkF m 1 #[.val (.ref a), .val (.long z), .second] [(.ref a)])) rfl rfl (hb hby d3_1)
  refine own_go st1 ?_
  show own_Go p e below _ (T1.setTop (mkF m 4 #[.val (.ref a), .val (.long z), .second] [(.double d)]))
  refine own_go (fun _ => XT.lloadN X1.here hx rfl (hb hby d3_4) rfl) ?_
  show own_Go p e below _ (T1.setTop (mkF m 5 #[.val (.ref a), .val (.long z), .second] [(.long z), (.double d)]))
  refine own_go (fun _ => own_l2d X1.here hx rfl (hb hby d3_5) rfl) ?_
  show own_Go p e below _ (T1.setTop (mkF m 6 #[.val (.ref a), .val (.long z), .second] [(.double (FP.l2d z)), (.double d)]))
  refine own_go (X1.ldc2DoubleC hx hown (mvT hZ (hw _ (List.mem_of_getElem? (i := 24) rfl))) (g := (mkF m 6 #[.val (.ref a), .val (.long z), .second] [(.double (FP.l2d z)), (.double d)])) rfl (hb hby d3_6)) ?_
  show own_Go p e below _ (T1.setTop (mkF m 9 #[.val (.ref a), .val (.long z), .second] [(.double (4652007308841189376 : UInt64)), (.double (FP.l2d z)), (.double d)]))
  refine own_go (fun _ => own_ddiv X1.here hx rfl (hb hby d3_9) rfl (own_q z)) ?_
  show own_Go p e below _ (T1.setTop (mkF m 10 #[.val (.ref a), .val (.long z), .second] [(.double (FP.ddiv (FP.l2d z) (4652007308841189376 : UInt64))), (.double d)]))
  refine own_go (fun _ => own_dadd X1.here hx rfl (hb hby d3_10) rfl (Jvm.Free.Fl.dadd_out' hd (own_q z))) ?_
  show own_Go p e below _ (T1.setTop (mkF m 11 #[.val (.ref a), .val (.long z), .second] [(.double (FP.dadd d (FP.ddiv (FP.l2d z) (4652007308841189376 : UInt64))))]))
  exact own_dret X1 hx hlk hret (hb hby d3_11) (Nat.zero_le _) (Nat.zero_le _) ⟨rfl, e1, rfl⟩
theorem d1_0 : decode prog_69_method_1_code 0 = .ok (.aload_n 0, 1) := by decide +kernel
theorem d1_1 : decode prog_69_method_1_code 1 = .ok (.invokespecial 1, 3) := by decide +kernel
theorem d1_4 : decode prog_69_method_1_code 4 = .ok (.iload_n 1, 1) := by decide +kernel
theorem d1_5 : decode prog_69_method_1_code 5 = .ok (.iconst 2, 1) := by decide +kernel
theorem d1_6 : decode prog_69_method_1_code 6 = .ok (.if_icmp .ge 17, 3) := by decide +kernel
theorem d1_23 : decode prog_69_method_1_code 23 = .ok (.iload_n 2, 1) := by decide +kernel
theorem d1_24 : decode prog_69_method_1_code 24 = .ok (.iconst 1, 1) := by decide +kernel
theorem d1_25 : decode prog_69_method_1_code 25 = .ok (.if_icmp .ge 17, 3) := by decide +kernel
theorem d1_42 : decode prog_69_method_1_code 42 = .ok (.aload_n 0, 1) := by decide +kernel
theorem d1_43 : decode prog_69_method_1_code 43 = .ok (.iload_n 1, 1) := by decide +kernel
theorem d1_44 : decode prog_69_method_1_code 44 = .ok (.putfield 19, 3) := by decide +kernel
theorem d1_47 : decode prog_69_method_1_code 47 = .ok (.aload_n 0, 1) := by decide +kernel
theorem d1_48 : decode prog_69_method_1_code 48 = .ok (.iload_n 2, 1) := by decide +kernel
theorem d1_49 : decode prog_69_method_1_code 49 = .ok (.putfield 23, 3) := by decide +kernel
theorem d1_52 : decode prog_69_method_1_code 52 = .ok (.aload_n 0, 1) := by decide +kernel
theorem d1_53 : decode prog_69_method_1_code 53 = .ok (.iload_n 2, 1) := by decide +kernel
theorem d1_54 : decode prog_69_method_1_code 54 = .ok (.i2l, 1) := by decide +kernel
theorem d1_55 : decode prog_69_method_1_code 55 = .ok (.ldc2_w 26, 3) := by decide +kernel
theorem d1_58 : decode prog_69_method_1_code 58 = .ok (.lmul, 1) := by decide +kernel
theorem d1_59 : decode prog_69_method_1_code 59 = .ok (.putfield 28, 3) := by decide +kernel
theorem d1_62 : decode prog_69_method_1_code 62 = .ok (.aload_n 0, 1) := by decide +kernel
theorem d1_63 : decode prog_69_method_1_code 63 = .ok (.iload_n 1, 1) := by decide +kernel
theorem d1_64 : decode prog_69_method_1_code 64 = .ok (.iconst 1, 1) := by decide +kernel
theorem d1_65 : decode prog_69_method_1_code 65 = .ok (.isub, 1) := by decide +kernel
theorem d1_66 : decode prog_69_method_1_code 66 = .ok (.i2d, 1) := by decide +kernel
theorem d1_67 : decode prog_69_method_1_code 67 = .ok (.iload_n 2, 1) := by decide +kernel
theorem d1_68 : decode prog_69_method_1_code 68 = .ok (.i2d, 1) := by decide +kernel
theorem d1_69 : decode prog_69_method_1_code 69 = .ok (.dmul, 1) := by decide +kernel
theorem d1_70 : decode prog_69_method_1_code 70 = .ok (.putfield 32, 3) := by decide +kernel
theorem d1_73 : decode prog_69_method_1_code 73 = .ok (.aload_n 0, 1) := by decide +kernel
theorem d1_74 : decode prog_69_method_1_code 74 = .ok (.aload_n 0, 1) := by decide +kernel
theorem d1_75 : decode prog_69_method_1_code 75 = .ok (.aload_n 0, 1) := by decide +kernel
theorem d1_76 : decode prog_69_method_1_code 76 = .ok (.getfield 28, 3) := by decide +kernel
theorem d1_79 : decode prog_69_method_1_code 79 = .ok (.lconst 1, 1) := by decide +kernel
theorem d1_80 : decode prog_69_method_1_code 80 = .ok (.lsub, 1) := by decide +kernel
theorem d1_81 : decode prog_69_method_1_code 81 = .ok (.invokevirtual 36, 3) := by decide +kernel
theorem d1_84 : decode prog_69_method_1_code 84 = .ok (.putfield 40, 3) := by decide +kernel
theorem d1_87 : decode prog_69_method_1_code 87 = .ok (.return_, 1) := by decide +kernel
set_option maxRecDepth 65536 in
set_option maxHeartbeats 40000000 in
theorem own_init_con (l : Launch) (Z : State) (a0 : Array Value) (hw : ∀ d ∈ tables_1, d.before a0 Z = true) (a : Addr) (n y : Int32) (n0 : Nat) (h0 : Heap) (o_E0 : Exa Z h0 a "com/example/meter_for_logs/meterforlogs/SampleWindow") (o_samples0 : Fld Z h0 a "com/example/meter_for_logs/meterforlogs/SampleWindow" "samples" "I" (.int (0 : Int32))) (o_sampleSeconds0 : Fld Z h0 a "com/example/meter_for_logs/meterforlogs/SampleWindow" "sampleSeconds" "I" (.int (0 : Int32))) (o_sampleMillis0 : Fld Z h0 a "com/example/meter_for_logs/meterforlogs/SampleWindow" "sampleMillis" "J" (.long (0 : Int64))) (o_wholeSampleSeconds0 : Fld Z h0 a "com/example/meter_for_logs/meterforlogs/SampleWindow" "wholeSampleSeconds" "D" (.double (0 : UInt64))) (o_endSeconds0 : Fld Z h0 a "com/example/meter_for_logs/meterforlogs/SampleWindow" "endSeconds" "D" (.double (0 : UInt64))) (hn : ¬ n < 2) (hy : ¬ y < 1) (ga : n0 ≤ a) (ws : List Jvm.Cond) :
    own_Con l Z (⟨"com/example/meter_for_logs/meterforlogs/SampleWindow", "<init>", "(II)V"⟩ : MethodName) prog_69_method_1_code 3 none ({ frames := 1, cells := 0, slots := 0, locals := 40 } : Room) #[(.ref a), (.int n), (.int y)] h0 (fun v h L => v = none ∧ Fr n0 L ∧ Keep h0 h [a] ∧ Fld Z h a "com/example/meter_for_logs/meterforlogs/SampleWindow" "samples" "I" (.int n)) ws := by
  refine own_con (F := fun m => (mkF m 0 #[.val (.ref a), .val (.int n), .val (.int y)] [])) (own_pn (by first | (simp [plainName, overriddenIn]; done) | decide +kernel)) (fun m => by first | (simp [entryFrame, mkF, argsToLocals, Value.category]; done) | rfl) ?_
  intro p e s m below meth c T X hx hby hml hZ hown hnm hret hlk eT
  show own_Go p e below (own_Out s (fun v h L => v = none ∧ Fr n0 L ∧ Keep h0 h [a] ∧ Fld Z h a "com/example/meter_for_logs/meterforlogs/SampleWindow" "samples" "I" (.int n)) ({ frames := 1, cells := 0, slots := 0, locals := 40 } : Room).cells ({ frames := 1, cells := 0, slots := 0, locals := 40 } : Room).slots) (T.setTop (mkF m 0 #[.val (.ref a), .val (.int n), .val (.int y)] []))
  have N0 := Fr.nil n0
  have K0 := Keep.refl h0 [a]
  refine own_go (fun _ => XS.aloadN X.here hx rfl (hb hby d1_0) rfl rfl) ?_
  show own_Go p e below _ (T.setTop (mkF m 1 #[.val (.ref a), .val (.int n), .val (.int y)] [(.ref a)]))
  obtain ⟨T1, X1, e1, st1⟩ := initO X hx hZ hown (hw _ (List.mem_of_getElem? (i := 8) rfl)) (hw _ (List.mem_of_getElem? (i := 9) rfl)) (hw _ (List.mem_of_getElem? (i := 10) rfl)) eT (g := (mkF m 1 #[.val (.ref a), .val (.int n), .val (.int y)] [(.ref a)])) rfl (by rw [hml]; rfl) rfl (hb hby d1_1) (by decide) (W := 0) (by show 2 * 0 + _ ≤ _; exact Nat.le_of_eq rfl) (by decide)
  refine own_go st1 ?_
  show own_Go p e below _ (T1.setTop (mkF m 4 #[.val (.ref a), .val (.int n), .val (.int y)] []))
  refine own_go (fun _ => XS.iloadN X1.here hx rfl (hb hby d1_4) rfl) ?_
  show own_Go p e below _ (T1.setTop (mkF m 5 #[.val (.ref a), .val (.int n), .val (.int y)] [(.int n)]))
  refine own_go (fun _ => XS.iconst X1.here hx rfl (hb hby d1_5)) ?_
  show own_Go p e below _ (T1.setTop (mkF m 6 #[.val (.ref a), .val (.int n), .val (.int y)] [(.int (2 : Int32)), (.int n)]))
  refine own_go (fun _ => XS.icmpYes X1.here hx rfl (pc0 := 6) (pc' := 23) rfl (hb hby d1_6) rfl (XT.ii_ge_t hn) (by decide) (by decide)) ?_
  show own_Go p e below _ (T1.setTop (mkF m 23 #[.val (.ref a), .val (.int n), .val (.int y)] []))
  refine own_go (fun _ => XS.iloadN X1.here hx rfl (hb hby d1_23) rfl) ?_
  show own_Go p e below _ (T1.setTop (mkF m 24 #[.val (.ref a), .val (.int n), .val (.int y)] [(.int y)]))
  refine own_go (fun _ => XS.iconst X1.here hx rfl (hb hby d1_24)) ?_
  show own_Go p e below _ (T1.setTop (mkF m 25 #[.val (.ref a), .val (.int n), .val (.int y)] [(.int (1 : Int32)), (.int y)]))
  refine own_go (fun _ => XS.icmpYes X1.here hx rfl (pc0 := 25) (pc' := 42) rfl (hb hby d1_25) rfl (XT.ii_ge_t hy) (by decide) (by decide)) ?_
  show own_Go p e below _ (T1.setTop (mkF m 42 #[.val (.ref a), .val (.int n), .val (.int y)] []))
  refine own_go (fun _ => XS.aloadN X1.here hx rfl (hb hby d1_42) rfl rfl) ?_
  show own_Go p e below _ (T1.setTop (mkF m 43 #[.val (.ref a), .val (.int n), .val (.int y)] [(.ref a)]))
  refine own_go (fun _ => XS.iloadN X1.here hx rfl (hb hby d1_43) rfl) ?_
  show own_Go p e below _ (T1.setTop (mkF m 44 #[.val (.ref a), .val (.int n), .val (.int y)] [(.int n), (.ref a)]))
  obtain ⟨T2, h2, X2, e2, W2, st2⟩ := putF X1 hx hZ hown (host := "") (Or.inl (hw _ (List.mem_of_getElem? (i := 11) rfl))) Via.refl e1 o_samples0 o_E0 (Or.inr ⟨(hw _ (List.mem_of_getElem? (i := 12) rfl)), rfl, hnm⟩) (hw _ (List.mem_of_getElem? (i := 3) rfl)) (ty := .int) (by decide) rfl rfl (g := (mkF m 44 #[.val (.ref a), .val (.int n), .val (.int y)] [(.int n), (.ref a)])) rfl rfl (hb hby d1_44)
  have N2 := Fr.snoc X2 N0 ga
  have o_E_2 := o_E0.wr W2
  have o_samples_2 := o_samples0.same W2
  have o_sampleSeconds_2 := o_sampleSeconds0.other W2 (Or.inr (slot_ne (t := .int) (t' := .int) (Or.inr (hw _ (List.mem_of_getElem? (i := 14) rfl))) (Or.inr (hw _ (List.mem_of_getElem? (i := 12) rfl))) (by decide) (by decide) (by decide)))
  have o_sampleMillis_2 := o_sampleMillis0.other W2 (Or.inr (slot_ne (t := .long) (t' := .int) (Or.inr (hw _ (List.mem_of_getElem? (i := 17) rfl))) (Or.inr (hw _ (List.mem_of_getElem? (i := 12) rfl))) (by decide) (by decide) (by decide)))
  have o_wholeSampleSeconds_2 := o_wholeSampleSeconds0.other W2 (Or.inr (slot_ne (t := .double) (t' := .int) (Or.inr (hw _ (List.mem_of_getElem? (i := 19) rfl))) (Or.inr (hw _ (List.mem_of_getElem? (i := 12) rfl))) (by decide) (by decide) (by decide)))
  have o_endSeconds_2 := o_endSeconds0.other W2 (Or.inr (slot_ne (t := .double) (t' := .int) (Or.inr (hw _ (List.mem_of_getElem? (i := 26) rfl))) (Or.inr (hw _ (List.mem_of_getElem? (i := 12) rfl))) (by decide) (by decide) (by decide)))
  have K2 := K0.wr W2 (Or.inl (List.mem_of_getElem? (i := 0) rfl))
  refine own_go st2 ?_
  show own_Go p e below _ (T2.setTop (mkF m 47 #[.val (.ref a), .val (.int n), .val (.int y)] []))
  refine own_go (fun _ => XS.aloadN X2.here hx rfl (hb hby d1_47) rfl rfl) ?_
  show own_Go p e below _ (T2.setTop (mkF m 48 #[.val (.ref a), .val (.int n), .val (.int y)] [(.ref a)]))
  refine own_go (fun _ => XS.iloadN X2.here hx rfl (hb hby d1_48) rfl) ?_
  show own_Go p e below _ (T2.setTop (mkF m 49 #[.val (.ref a), .val (.int n), .val (.int y)] [(.int y), (.ref a)]))
  obtain ⟨T3, h3, X3, e3, W3, st3⟩ := putF X2 hx hZ hown (host := "") (Or.inl (hw _ (List.mem_of_getElem? (i := 13) rfl))) Via.refl e2 o_sampleSeconds_2 o_E_2 (Or.inr ⟨(hw _ (List.mem_of_getElem? (i := 14) rfl)), rfl, hnm⟩) (hw _ (List.mem_of_getElem? (i := 3) rfl)) (ty := .int) (by decide) rfl rfl (g := (mkF m 49 #[.val (.ref a), .val (.int n), .val (.int y)] [(.int y), (.ref a)])) rfl rfl (hb hby d1_49)
  have N3 := Fr.snoc X3 N2 ga
  have o_E_3 := o_E_2.wr W3
  have o_samples_3 := o_samples_2.other W3 (Or.inr (slot_ne (t := .int) (t' := .int) (Or.inr (hw _ (List.mem_of_getElem? (i := 12) rfl))) (Or.inr (hw _ (List.mem_of_getElem? (i := 14) rfl))) (by decide) (by decide) (by decide)))
  have o_sampleSeconds_3 := o_sampleSeconds_2.same W3
  have o_sampleMillis_3 := o_sampleMillis_2.other W3 (Or.inr (slot_ne (t := .long) (t' := .int) (Or.inr (hw _ (List.mem_of_getElem? (i := 17) rfl))) (Or.inr (hw _ (List.mem_of_getElem? (i := 14) rfl))) (by decide) (by decide) (by decide)))
  have o_wholeSampleSeconds_3 := o_wholeSampleSeconds_2.other W3 (Or.inr (slot_ne (t := .double) (t' := .int) (Or.inr (hw _ (List.mem_of_getElem? (i := 19) rfl))) (Or.inr (hw _ (List.mem_of_getElem? (i := 14) rfl))) (by decide) (by decide) (by decide)))
  have o_endSeconds_3 := o_endSeconds_2.other W3 (Or.inr (slot_ne (t := .double) (t' := .int) (Or.inr (hw _ (List.mem_of_getElem? (i := 26) rfl))) (Or.inr (hw _ (List.mem_of_getElem? (i := 14) rfl))) (by decide) (by decide) (by decide)))
  have K3 := K2.wr W3 (Or.inl (List.mem_of_getElem? (i := 0) rfl))
  refine own_go st3 ?_
  show own_Go p e below _ (T3.setTop (mkF m 52 #[.val (.ref a), .val (.int n), .val (.int y)] []))
  refine own_go (fun _ => XS.aloadN X3.here hx rfl (hb hby d1_52) rfl rfl) ?_
  show own_Go p e below _ (T3.setTop (mkF m 53 #[.val (.ref a), .val (.int n), .val (.int y)] [(.ref a)]))
  refine own_go (fun _ => XS.iloadN X3.here hx rfl (hb hby d1_53) rfl) ?_
  show own_Go p e below _ (T3.setTop (mkF m 54 #[.val (.ref a), .val (.int n), .val (.int y)] [(.int y), (.ref a)]))
  refine own_go (fun _ => XT.i2l X3.here hx rfl (hb hby d1_54) rfl) ?_
  show own_Go p e below _ (T3.setTop (mkF m 55 #[.val (.ref a), .val (.int n), .val (.int y)] [(.long (y.toInt64)), (.ref a)]))
  refine own_go (X3.ldc2Long hx hown (mvT hZ (hw _ (List.mem_of_getElem? (i := 15) rfl))) (g := (mkF m 55 #[.val (.ref a), .val (.int n), .val (.int y)] [(.long (y.toInt64)), (.ref a)])) rfl (hb hby d1_55)) ?_
  show own_Go p e below _ (T3.setTop (mkF m 58 #[.val (.ref a), .val (.int n), .val (.int y)] [(.long (1000 : Int64)), (.long (y.toInt64)), (.ref a)]))
  refine own_go (fun _ => XT.lmul X3.here hx rfl (hb hby d1_58) rfl) ?_
  show own_Go p e below _ (T3.setTop (mkF m 59 #[.val (.ref a), .val (.int n), .val (.int y)] [(.long ((y.toInt64) * (1000 : Int64))), (.ref a)]))
  obtain ⟨T4, h4, X4, e4, W4, st4⟩ := putF X3 hx hZ hown (host := "") (Or.inl (hw _ (List.mem_of_getElem? (i := 16) rfl))) Via.refl e3 o_sampleMillis_3 o_E_3 (Or.inr ⟨(hw _ (List.mem_of_getElem? (i := 17) rfl)), rfl, hnm⟩) (hw _ (List.mem_of_getElem? (i := 3) rfl)) (ty := .long) (by decide) rfl rfl (g := (mkF m 59 #[.val (.ref a), .val (.int n), .val (.int y)] [(.long ((y.toInt64) * (1000 : Int64))), (.ref a)])) rfl rfl (hb hby d1_59)
  have N4 := Fr.snoc X4 N3 ga
  have o_E_4 := o_E_3.wr W4
  have o_samples_4 := o_samples_3.other W4 (Or.inr (slot_ne (t := .int) (t' := .long) (Or.inr (hw _ (List.mem_of_getElem? (i := 12) rfl))) (Or.inr (hw _ (List.mem_of_getElem? (i := 17) rfl))) (by decide) (by decide) (by decide)))
  have o_sampleSeconds_4 := o_sampleSeconds_3.other W4 (Or.inr (slot_ne (t := .int) (t' := .long) (Or.inr (hw _ (List.mem_of_getElem? (i := 14) rfl))) (Or.inr (hw _ (List.mem_of_getElem? (i := 17) rfl))) (by decide) (by decide) (by decide)))
  have o_sampleMillis_4 := o_sampleMillis_3.same W4
  have o_wholeSampleSeconds_4 := o_wholeSampleSeconds_3.other W4 (Or.inr (slot_ne (t := .double) (t' := .long) (Or.inr (hw _ (List.mem_of_getElem? (i := 19) rfl))) (Or.inr (hw _ (List.mem_of_getElem? (i := 17) rfl))) (by decide) (by decide) (by decide)))
  have o_endSeconds_4 := o_endSeconds_3.other W4 (Or.inr (slot_ne (t := .double) (t' := .long) (Or.inr (hw _ (List.mem_of_getElem? (i := 26) rfl))) (Or.inr (hw _ (List.mem_of_getElem? (i := 17) rfl))) (by decide) (by decide) (by decide)))
  have K4 := K3.wr W4 (Or.inl (List.mem_of_getElem? (i := 0) rfl))
  refine own_go st4 ?_
  show own_Go p e below _ (T4.setTop (mkF m 62 #[.val (.ref a), .val (.int n), .val (.int y)] []))
  refine own_go (fun _ => XS.aloadN X4.here hx rfl (hb hby d1_62) rfl rfl) ?_
  show own_Go p e below _ (T4.setTop (mkF m 63 #[.val (.ref a), .val (.int n), .val (.int y)] [(.ref a)]))
  refine own_go (fun _ => XS.iloadN X4.here hx rfl (hb hby d1_63) rfl) ?_
  show own_Go p e below _ (T4.setTop (mkF m 64 #[.val (.ref a), .val (.int n), .val (.int y)] [(.int n), (.ref a)]))
  refine own_go (fun _ => XS.iconst X4.here hx rfl (hb hby d1_64)) ?_
  show own_Go p e below _ (T4.setTop (mkF m 65 #[.val (.ref a), .val (.int n), .val (.int y)] [(.int (1 : Int32)), (.int n), (.ref a)]))
  refine own_go (fun _ => XS.isub X4.here hx rfl (hb hby d1_65) rfl) ?_
  show own_Go p e below _ (T4.setTop (mkF m 66 #[.val (.ref a), .val (.int n), .val (.int y)] [(.int (n - (1 : Int32))), (.ref a)]))
  refine own_go (fun _ => own_i2d X4.here hx rfl (hb hby d1_66) rfl) ?_
  show own_Go p e below _ (T4.setTop (mkF m 67 #[.val (.ref a), .val (.int n), .val (.int y)] [(.double (FP.i2d (n - (1 : Int32)))), (.ref a)]))
  refine own_go (fun _ => XS.iloadN X4.here hx rfl (hb hby d1_67) rfl) ?_
  show own_Go p e below _ (T4.setTop (mkF m 68 #[.val (.ref a), .val (.int n), .val (.int y)] [(.int y), (.double (FP.i2d (n - (1 : Int32)))), (.ref a)]))
  refine own_go (fun _ => own_i2d X4.here hx rfl (hb hby d1_68) rfl) ?_
  show own_Go p e below _ (T4.setTop (mkF m 69 #[.val (.ref a), .val (.int n), .val (.int y)] [(.double (FP.i2d y)), (.double (FP.i2d (n - (1 : Int32)))), (.ref a)]))
  refine own_go (fun _ => own_dmul X4.here hx rfl (hb hby d1_69) rfl (Jvm.Free.Fl.dmul_out (Jvm.Free.Fl.i2d_fin _) (Jvm.Free.Fl.i2d_fin _))) ?_
  show own_Go p e below _ (T4.setTop (mkF m 70 #[.val (.ref a), .val (.int n), .val (.int y)] [(.double (FP.dmul (FP.i2d (n - (1 : Int32))) (FP.i2d y))), (.ref a)]))
  obtain ⟨T5, h5, X5, e5, W5, st5⟩ := putF X4 hx hZ hown (host := "") (Or.inl (hw _ (List.mem_of_getElem? (i := 18) rfl))) Via.refl e4 o_wholeSampleSeconds_4 o_E_4 (Or.inr ⟨(hw _ (List.mem_of_getElem? (i := 19) rfl)), rfl, hnm⟩) (hw _ (List.mem_of_getElem? (i := 3) rfl)) (ty := .double) (by decide) rfl rfl (g := (mkF m 70 #[.val (.ref a), .val (.int n), .val (.int y)] [(.double (FP.dmul (FP.i2d (n - (1 : Int32))) (FP.i2d y))), (.ref a)])) rfl rfl (hb hby d1_70)
  have N5 := Fr.snoc X5 N4 ga
  have o_E_5 := o_E_4.wr W5
  have o_samples_5 := o_samples_4.other W5 (Or.inr (slot_ne (t := .int) (t' := .double) (Or.inr (hw _ (List.mem_of_getElem? (i := 12) rfl))) (Or.inr (hw _ (List.mem_of_getElem? (i := 19) rfl))) (by decide) (by decide) (by decide)))
  have o_sampleSeconds_5 := o_sampleSeconds_4.other W5 (Or.inr (slot_ne (t := .int) (t' := .double) (Or.inr (hw _ (List.mem_of_getElem? (i := 14) rfl))) (Or.inr (hw _ (List.mem_of_getElem? (i := 19) rfl))) (by decide) (by decide) (by decide)))
  have o_sampleMillis_5 := o_sampleMillis_4.other W5 (Or.inr (slot_ne (t := .long) (t' := .double) (Or.inr (hw _ (List.mem_of_getElem? (i := 17) rfl))) (Or.inr (hw _ (List.mem_of_getElem? (i := 19) rfl))) (by decide) (by decide) (by decide)))
  have o_wholeSampleSeconds_5 := o_wholeSampleSeconds_4.same W5
  have o_endSeconds_5 := o_endSeconds_4.other W5 (Or.inr (slot_ne (t := .double) (t' := .double) (Or.inr (hw _ (List.mem_of_getElem? (i := 26) rfl))) (Or.inr (hw _ (List.mem_of_getElem? (i := 19) rfl))) (by decide) (by decide) (by decide)))
  have K5 := K4.wr W5 (Or.inl (List.mem_of_getElem? (i := 0) rfl))
  refine own_go st5 ?_
  show own_Go p e below _ (T5.setTop (mkF m 73 #[.val (.ref a), .val (.int n), .val (.int y)] []))
  refine own_go (fun _ => XS.aloadN X5.here hx rfl (hb hby d1_73) rfl rfl) ?_
  show own_Go p e below _ (T5.setTop (mkF m 74 #[.val (.ref a), .val (.int n), .val (.int y)] [(.ref a)]))
  refine own_go (fun _ => XS.aloadN X5.here hx rfl (hb hby d1_74) rfl rfl) ?_
  show own_Go p e below _ (T5.setTop (mkF m 75 #[.val (.ref a), .val (.int n), .val (.int y)] [(.ref a), (.ref a)]))
  refine own_go (fun _ => XS.aloadN X5.here hx rfl (hb hby d1_75) rfl rfl) ?_
  show own_Go p e below _ (T5.setTop (mkF m 76 #[.val (.ref a), .val (.int n), .val (.int y)] [(.ref a), (.ref a), (.ref a)]))
  obtain ⟨T6, X6, e6, st6⟩ := getF X5 hx hZ hown (host := "") (Or.inl (hw _ (List.mem_of_getElem? (i := 16) rfl))) Via.refl e5 o_sampleMillis_5 (g := (mkF m 76 #[.val (.ref a), .val (.int n), .val (.int y)] [(.ref a), (.ref a), (.ref a)])) rfl rfl (hb hby d1_76)
  refine own_go st6 ?_
  show own_Go p e below _ (T6.setTop (mkF m 79 #[.val (.ref a), .val (.int n), .val (.int y)] [(.long ((y.toInt64) * (1000 : Int64))), (.ref a), (.ref a)]))
  refine own_go (fun _ => XT.lconst X6.here hx rfl (hb hby d1_79)) ?_
  show own_Go p e below _ (T6.setTop (mkF m 80 #[.val (.ref a), .val (.int n), .val (.int y)] [(.long (1 : Int64)), (.long ((y.toInt64) * (1000 : Int64))), (.ref a), (.ref a)]))
  refine own_go (fun _ => XT.lsub X6.here hx rfl (hb hby d1_80) rfl) ?_
  show own_Go p e below _ (T6.setTop (mkF m 81 #[.val (.ref a), .val (.int n), .val (.int y)] [(.long (((y.toInt64) * (1000 : Int64)) - (1 : Int64))), (.ref a), (.ref a)]))
  obtain ⟨_, T7, L7, X7, ⟨rfl, eh7, rfl⟩, st7⟩ := own_callP X6 hx hZ hown (argsL := [(.long (((y.toInt64) * (1000 : Int64)) - (1 : Int64)))]) (rest := [(.ref a)]) (own_into_con l Z a0 hw a (FP.dmul (FP.i2d (n - (1 : Int32))) (FP.i2d y)) (((y.toInt64) * (1000 : Int64)) - (1 : Int64)) h5 o_wholeSampleSeconds_5 (own_fin _ _) []) e6 o_E_5 (hw _ (List.mem_of_getElem? (i := 20) rfl)) (hw _ (List.mem_of_getElem? (i := 21) rfl)) (hw _ (List.mem_of_getElem? (i := 22) rfl)) (hw _ (List.mem_of_getElem? (i := 3) rfl)) (hw _ (List.mem_of_getElem? (i := 4) rfl)) (hw _ (List.mem_of_getElem? (i := 23) rfl)) (by decide) (by decide +kernel : parseMethodDescriptor "(J)D" = some ⟨[.long], some .double⟩) rfl (g := (mkF m 81 #[.val (.ref a), .val (.int n), .val (.int y)] [(.long (((y.toInt64) * (1000 : Int64)) - (1 : Int64))), (.ref a), (.ref a)])) rfl (by rw [hml]; rfl) rfl 1 (by show 2 * 0 + _ ≤ _; exact Nat.le_of_eq rfl) (hb hby d1_81) (by decide) (by decide) (by decide) (by decide)
  rw [List.append_nil] at X7
  refine own_go st7 ?_
  show own_Go p e below _ (T7.setTop (mkF m 84 #[.val (.ref a), .val (.int n), .val (.int y)] [(.double (FP.dadd (FP.dmul (FP.i2d (n - (1 : Int32))) (FP.i2d y)) (FP.ddiv (FP.l2d (((y.toInt64) * (1000 : Int64)) - (1 : Int64))) (4652007308841189376 : UInt64)))), (.ref a)]))
  obtain ⟨T8, h8, X8, e8, W8, st8⟩ := putF X7 hx hZ hown (host := "") (Or.inl (hw _ (List.mem_of_getElem? (i := 25) rfl))) Via.refl eh7 o_endSeconds_5 o_E_5 (Or.inr ⟨(hw _ (List.mem_of_getElem? (i := 26) rfl)), rfl, hnm⟩) (hw _ (List.mem_of_getElem? (i := 3) rfl)) (ty := .double) (by decide) rfl rfl (g := (mkF m 84 #[.val (.ref a), .val (.int n), .val (.int y)] [(.double (FP.dadd (FP.dmul (FP.i2d (n - (1 : Int32))) (FP.i2d y)) (FP.ddiv (FP.l2d (((y.toInt64) * (1000 : Int64)) - (1 : Int64))) (4652007308841189376 : UInt64)))), (.ref a)])) rfl rfl (hb hby d1_84)
  have N8 := Fr.snoc X8 N5 ga
  have o_E_8 := o_E_5.wr W8
  have o_samples_8 := o_samples_5.other W8 (Or.inr (slot_ne (t := .int) (t' := .double) (Or.inr (hw _ (List.mem_of_getElem? (i := 12) rfl))) (Or.inr (hw _ (List.mem_of_getElem? (i := 26) rfl))) (by decide) (by decide) (by decide)))
  have o_sampleSeconds_8 := o_sampleSeconds_5.other W8 (Or.inr (slot_ne (t := .int) (t' := .double) (Or.inr (hw _ (List.mem_of_getElem? (i := 14) rfl))) (Or.inr (hw _ (List.mem_of_getElem? (i := 26) rfl))) (by decide) (by decide) (by decide)))
  have o_sampleMillis_8 := o_sampleMillis_5.other W8 (Or.inr (slot_ne (t := .long) (t' := .double) (Or.inr (hw _ (List.mem_of_getElem? (i := 17) rfl))) (Or.inr (hw _ (List.mem_of_getElem? (i := 26) rfl))) (by decide) (by decide) (by decide)))
  have o_wholeSampleSeconds_8 := o_wholeSampleSeconds_5.other W8 (Or.inr (slot_ne (t := .double) (t' := .double) (Or.inr (hw _ (List.mem_of_getElem? (i := 19) rfl))) (Or.inr (hw _ (List.mem_of_getElem? (i := 26) rfl))) (by decide) (by decide) (by decide)))
  have o_endSeconds_8 := o_endSeconds_5.same W8
  have K8 := K5.wr W8 (Or.inl (List.mem_of_getElem? (i := 0) rfl))
  refine own_go st8 ?_
  show own_Go p e below _ (T8.setTop (mkF m 87 #[.val (.ref a), .val (.int n), .val (.int y)] []))
  exact own_vret X8 hx hlk hret (hb hby d1_87) (by decide) (by decide) (by rw [e8]; exact ⟨rfl, N8, K8, o_samples_8⟩)
def own_holds (n : Int32) (u v : Int64) : Int32 := if v < u then 0 else if (v - n.toInt64) < u then 1 else 0
theorem d4_0 : decode prog_69_method_9_code 0 = .ok (.lload_n 1, 1) := by decide +kernel
theorem d4_1 : decode prog_69_method_9_code 1 = .ok (.lload_n 3, 1) := by decide +kernel
theorem d4_2 : decode prog_69_method_9_code 2 = .ok (.lcmp, 1) := by decide +kernel
theorem d4_3 : decode prog_69_method_9_code 3 = .ok (.ifCond .gt 19, 3) := by decide +kernel
theorem d4_6 : decode prog_69_method_9_code 6 = .ok (.lload_n 1, 1) := by decide +kernel
theorem d4_7 : decode prog_69_method_9_code 7 = .ok (.lload_n 3, 1) := by decide +kernel
theorem d4_8 : decode prog_69_method_9_code 8 = .ok (.aload_n 0, 1) := by decide +kernel
theorem d4_9 : decode prog_69_method_9_code 9 = .ok (.getfield 19, 3) := by decide +kernel
theorem d4_12 : decode prog_69_method_9_code 12 = .ok (.i2l, 1) := by decide +kernel
theorem d4_13 : decode prog_69_method_9_code 13 = .ok (.lsub, 1) := by decide +kernel
theorem d4_14 : decode prog_69_method_9_code 14 = .ok (.lcmp, 1) := by decide +kernel
theorem d4_15 : decode prog_69_method_9_code 15 = .ok (.ifCond .le 7, 3) := by decide +kernel
theorem d4_18 : decode prog_69_method_9_code 18 = .ok (.iconst 1, 1) := by decide +kernel
theorem d4_19 : decode prog_69_method_9_code 19 = .ok (.goto 4, 3) := by decide +kernel
theorem d4_22 : decode prog_69_method_9_code 22 = .ok (.iconst 0, 1) := by decide +kernel
theorem d4_23 : decode prog_69_method_9_code 23 = .ok (.ireturn, 1) := by decide +kernel
set_option maxRecDepth 65536 in
set_option maxHeartbeats 40000000 in
theorem own_holds_con (l : Launch) (Z : State) (a0 : Array Value) (hw : ∀ d ∈ tables_1, d.before a0 Z = true) (a : Addr) (n : Int32) (u v : Int64) (h0 : Heap) (fs : Fld Z h0 a "com/example/meter_for_logs/meterforlogs/SampleWindow" "samples" "I" (.int n)) (ws : List Jvm.Cond) :
    own_Con l Z (⟨"com/example/meter_for_logs/meterforlogs/SampleWindow", "holds", "(JJ)Z"⟩ : MethodName) prog_69_method_9_code 5 (some .boolean) ({ frames := 0, cells := 0, slots := 0, locals := 0 } : Room) #[(.ref a), (.long u), (.long v)] h0 (own_PQ h0 (.int (own_holds n u v))) ws := by
  refine own_con (F := fun m => (mkF m 0 #[.val (.ref a), .val (.long u), .second, .val (.long v), .second] [])) (own_pn (by first | (simp [plainName, overriddenIn]; done) | decide +kernel)) (fun m => by first | (simp [entryFrame, mkF, argsToLocals, Value.category]; done) | rfl) ?_
  intro p e s m below meth c T X hx hby hml hZ hown hnm hret hlk eT
  show own_Go p e below (own_Out s (own_PQ h0 (.int (own_holds n u v))) ({ frames := 0, cells := 0, slots := 0, locals := 0 } : Room).cells ({ frames := 0, cells := 0, slots := 0, locals := 0 } : Room).slots) (T.setTop (mkF m 0 #[.val (.ref a), .val (.long u), .second, .val (.long v), .second] []))
  show own_Go p e below (own_Out s (own_PQ h0 (.int (if v < u then 0 else if (v - n.toInt64) < u then 1 else 0))) 0 0) _
  refine own_go (fun _ => XT.lloadN X.here hx rfl (hb hby d4_0) rfl) ?_
  show own_Go p e below _ (T.setTop (mkF m 1 #[.val (.ref a), .val (.long u), .second, .val (.long v), .second] [(.long u)]))
  refine own_go (fun _ => XT.lloadN X.here hx rfl (hb hby d4_1) rfl) ?_
  show own_Go p e below _ (T.setTop (mkF m 2 #[.val (.ref a), .val (.long u), .second, .val (.long v), .second] [(.long v), (.long u)]))
  refine own_go (fun _ => XT.lcmp X.here hx rfl (hb hby d4_2) rfl) ?_
  show own_Go p e below _ (T.setTop (mkF m 3 #[.val (.ref a), .val (.long u), .second, .val (.long v), .second] [(.int (XT.cmpL u v))]))
  refine own_iteI (fun hc => ?_) (fun hc => ?_)
  · skip
    refine own_go (fun _ => XS.ifYes X.here hx rfl (pc0 := 3) (pc' := 22) rfl (hb hby d4_3) rfl (XT.ll_gt_t hc) (by decide) (by decide)) ?_
    show own_Go p e below _ (T.setTop (mkF m 22 #[.val (.ref a), .val (.long u), .second, .val (.long v), .second] []))
    refine own_go (fun _ => XS.iconst X.here hx rfl (hb hby d4_22)) ?_
    show own_Go p e below _ (T.setTop (mkF m 23 #[.val (.ref a), .val (.long u), .second, .val (.long v), .second] [(.int (0 : Int32))]))
    exact own_iret X hx hlk hret (Or.inr (Or.inl rfl)) rfl (hb hby d4_23) (Nat.zero_le _) (Nat.zero_le _) ⟨rfl, eT, rfl⟩
  refine own_go (fun _ => XS.ifNo X.here hx rfl (hb hby d4_3) rfl (XT.ll_gt_f hc)) ?_
  show own_Go p e below _ (T.setTop (mkF m 6 #[.val (.ref a), .val (.long u), .second, .val (.long v), .second] []))
  refine own_go (fun _ => XT.lloadN X.here hx rfl (hb hby d4_6) rfl) ?_
  show own_Go p e below _ (T.setTop (mkF m 7 #[.val (.ref a), .val (.long u), .second, .val (.long v), .second] [(.long u)]))
  refine own_go (fun _ => XT.lloadN X.here hx rfl (hb hby d4_7) rfl) ?_
  show own_Go p e below _ (T.setTop (mkF m 8 #[.val (.ref a), .val (.long u), .second, .val (.long v), .second] [(.long v), (.long u)]))
  refine own_go (fun _ => XS.aloadN X.here hx rfl (hb hby d4_8) rfl rfl) ?_
  show own_Go p e below _ (T.setTop (mkF m 9 #[.val (.ref a), .val (.long u), .second, .val (.long v), .second] [(.ref a), (.long v), (.long u)]))
  obtain ⟨T1, X1, e1, st1⟩ := getF X hx hZ hown (host := "") (Or.inl (hw _ (List.mem_of_getElem? (i := 11) rfl))) Via.refl eT fs (g := (mkF m 9 #[.val (.ref a), .val (.long u), .second, .val (.long v), .second] [(.ref a), (.long v), (.long u)])) rfl rfl (hb hby d4_9)
  refine own_go st1 ?_
  show own_Go p e below _ (T1.setTop (mkF m 12 #[.val (.ref a), .val (.long u), .second, .val (.long v), .second] [(.int n), (.long v), (.long u)]))
  refine own_go (fun _ => XT.i2l X1.here hx rfl (hb hby d4_12) rfl) ?_
  show own_Go p e below _ (T1.setTop (mkF m 13 #[.val (.ref a), .val (.long u), .second, .val (.long v), .second] [(.long (n.toInt64)), (.long v), (.long u)]))
  refine own_go (fun _ => XT.lsub X1.here hx rfl (hb hby d4_13) rfl) ?_
  show own_Go p e below _ (T1.setTop (mkF m 14 #[.val (.ref a), .val (.long u), .second, .val (.long v), .second] [(.long (v - (n.toInt64))), (.long u)]))
  refine own_go (fun _ => XT.lcmp X1.here hx rfl (hb hby d4_14) rfl) ?_
  show own_Go p e below _ (T1.setTop (mkF m 15 #[.val (.ref a), .val (.long u), .second, .val (.long v), .second] [(.int (XT.cmpL u (v - (n.toInt64))))]))
  refine own_iteI (fun hd => ?_) (fun hd => ?_)
  · skip
    refine own_go (fun _ => XS.ifNo X1.here hx rfl (hb hby d4_15) rfl (XT.ll_le_f hd)) ?_
    show own_Go p e below _ (T1.setTop (mkF m 18 #[.val (.ref a), .val (.long u), .second, .val (.long v), .second] []))
    refine own_go (fun _ => XS.iconst X1.here hx rfl (hb hby d4_18)) ?_
    show own_Go p e below _ (T1.setTop (mkF m 19 #[.val (.ref a), .val (.long u), .second, .val (.long v), .second] [(.int (1 : Int32))]))
    refine own_go (fun _ => XS.goto X1.here hx rfl (pc0 := 19) (pc' := 23) rfl (hb hby d4_19) (by decide) (by decide)) ?_
    show own_Go p e below _ (T1.setTop (mkF m 23 #[.val (.ref a), .val (.long u), .second, .val (.long v), .second] [(.int (1 : Int32))]))
    exact own_iret X1 hx hlk hret (Or.inr (Or.inl rfl)) rfl (hb hby d4_23) (Nat.zero_le _) (Nat.zero_le _) ⟨rfl, e1, rfl⟩
  refine own_go (fun _ => XS.ifYes X1.here hx rfl (pc0 := 15) (pc' := 22) rfl (hb hby d4_15) rfl (XT.ll_le_t hd) (by decide) (by decide)) ?_
  show own_Go p e below _ (T1.setTop (mkF m 22 #[.val (.ref a), .val (.long u), .second, .val (.long v), .second] []))
  refine own_go (fun _ => XS.iconst X1.here hx rfl (hb hby d4_22)) ?_
  show own_Go p e below _ (T1.setTop (mkF m 23 #[.val (.ref a), .val (.long u), .second, .val (.long v), .second] [(.int (0 : Int32))]))
  exact own_iret X1 hx hlk hret (Or.inr (Or.inl rfl)) rfl (hb hby d4_23) (Nat.zero_le _) (Nat.zero_le _) ⟨rfl, e1, rfl⟩
/-- what the law expects -/
def own_exp (n : Int32) (u v : Int64) : Int32 := if v < u then 0 else if v - u < 0 then 0 else if v - u < n.toInt64 then 1 else 0
theorem own_law (n : Int32) (u v : Int64) (hn : ¬ n < 2) (hv : ¬ v < (-9223372036854775808 : Int64) + n.toInt64) : own_holds n u v = own_exp n u v := by
  have n1 := n.toInt_lt
  have n2 : 2 ≤ n.toInt := by rw [Int32.lt_iff_toInt_lt] at hn; simp only [Int32.reduceToInt] at hn; omega
  have e0 : n.toInt64.toInt = n.toInt := c_i2l n
  have u1 := u.toInt_lt
  have u2 := u.le_toInt
  have v1 := v.toInt_lt
  have v2 := v.le_toInt
  have d1 := c_ladd (-9223372036854775808) n.toInt64
  have lm : (-9223372036854775808 : Int64).toInt = -9223372036854775808 := by decide
  have s1 := ((-9223372036854775808 : Int64) + n.toInt64).toInt_lt
  have s2 := ((-9223372036854775808 : Int64) + n.toInt64).le_toInt
  rw [lm, e0] at d1
  have d2 := c_lsub v n.toInt64
  rw [e0] at d2
  have t1 := (v - n.toInt64).toInt_lt
  have t2 := (v - n.toInt64).le_toInt
  have d3 := c_lsub v u
  have w1 := (v - u).toInt_lt
  have w2 := (v - u).le_toInt
  have l0 : (0 : Int64).toInt = 0 := by decide
  unfold own_holds own_exp
  rw [Int64.lt_iff_toInt_lt] at hv
  simp only [Int64.lt_iff_toInt_lt, e0, l0]
  repeat' split
  all_goals first | rfl | (exfalso; omega)
theorem own_two {z : Int32} (h0 : 0 ≤ z.toInt) (h : z < (2 : Int32)) : ¬ (z + (2 : Int32)) < 2 := by
  have d := c_iadd z 2
  have l2 : (2 : Int32).toInt = 2 := by decide
  have b1 := (z + (2 : Int32)).toInt_lt
  have b2 := (z + (2 : Int32)).le_toInt
  rw [Int32.lt_iff_toInt_lt, l2] at h
  rw [Int32.lt_iff_toInt_lt, l2]
  rw [l2] at d
  omega
def own_Q1 (n0 : Nat) (v : Option Value) (h : Heap) (L : List Loc) : Prop := v = some (.int 1) ∧ Fr n0 L
set_option maxRecDepth 65536 in
set_option maxHeartbeats 40000000 in
theorem own_main_con (l : Launch) (Z : State) (a0 : Array Value) (hw : ∀ d ∈ tables_1, d.before a0 Z = true) (x0 : Int32) (x1 : Int32) (x2 : Int64) (x3 : Int64) (x4 : Int32) (x5 : Int32)  (h0 : Heap) (ws : List Jvm.Cond) :
    own_Con l Z x code maxLocals ret room_1 #[(.int x0), (.int x1), (.long x2), (.long x3), (.int x4), (.int x5)] h0 (own_Q1 h0.size) ws := by
  refine own_con (F := fun m => (mkF m 0 #[.val (.int x0), .val (.int x1), .val (.long x2), .second, .val (.long x3), .second, .val (.int x4), .val (.int x5), .unset, .unset, .unset, .unset, .unset, .unset, .unset, .unset, .unset, .unset, .unset] [])) (own_pn (by first | (simp [plainName, overriddenIn]; done) | decide +kernel)) (fun m => by first | (simp [entryFrame, mkF, argsToLocals, Value.category, maxLocals]; done) | rfl) ?_
  intro p e s m below meth c T X hx hby hml hZ hown hnm hret hlk eT
  show own_Go p e below (own_Out s (own_Q1 h0.size) room_1.cells room_1.slots) (T.setTop (mkF m 0 #[.val (.int x0), .val (.int x1), .val (.long x2), .second, .val (.long x3), .second, .val (.int x4), .val (.int x5), .unset, .unset, .unset, .unset, .unset, .unset, .unset, .unset, .unset, .unset, .unset] []))
  have N0 := Fr.nil h0.size
  have G70 : ∀ (n y : Int32) (hn : ¬ n < 2) (hy : ¬ y < 1) (hv : ¬ x3 < (-9223372036854775808 : Int64) + n.toInt64) (u : Int64), own_Go p e below (own_Out s (own_Q1 h0.size) room_1.cells room_1.slots) (T.setTop (mkF m 70 #[.val (.int x0), .val (.int x1), .val (.long x2), .second, .val (.long x3), .second, .val (.int x4), .val (.int x5), .val (.int n), .val (.int y), .val (.long x3), .second, .val (.long u), .second, .unset, .unset, .unset, .unset, .unset] [])) := by
    intro n y hn hy hv u
    show own_Go p e below _ (T.setTop (mkF m 70 #[.val (.int x0), .val (.int x1), .val (.long x2), .second, .val (.long x3), .second, .val (.int x4), .val (.int x5), .val (.int n), .val (.int y), .val (.long x3), .second, .val (.long u), .second, .unset, .unset, .unset, .unset, .unset] []))
    obtain ⟨T1, h1, X1, e1, E1, C1, D1, -, st1⟩ := newO X hx hZ hown (hw _ (List.mem_of_getElem? (i := 2) rfl)) (hw _ (List.mem_of_getElem? (i := 3) rfl)) (hw _ (List.mem_of_getElem? (i := 4) rfl)) eT (g := (mkF m 70 #[.val (.int x0), .val (.int x1), .val (.long x2), .second, .val (.long x3), .second, .val (.int x4), .val (.int x5), .val (.int n), .val (.int y), .val (.long x3), .second, .val (.long u), .second, .unset, .unset, .unset, .unset, .unset] [])) rfl (hb hby at_70) (by decide) (by decide)
    obtain ⟨a1, q1⟩ : ∃ z, z = h0.size := ⟨_, rfl⟩
    rw [← q1] at C1 D1 st1
    have o_samples_1 := D1 (Or.inr (hw _ (List.mem_of_getElem? (i := 12) rfl))) (ty := .int) (by decide)
    have o_sampleSeconds_1 := D1 (Or.inr (hw _ (List.mem_of_getElem? (i := 14) rfl))) (ty := .int) (by decide)
    have o_sampleMillis_1 := D1 (Or.inr (hw _ (List.mem_of_getElem? (i := 17) rfl))) (ty := .long) (by decide)
    have o_wholeSampleSeconds_1 := D1 (Or.inr (hw _ (List.mem_of_getElem? (i := 19) rfl))) (ty := .double) (by decide)
    have o_endSeconds_1 := D1 (Or.inr (hw _ (List.mem_of_getElem? (i := 26) rfl))) (ty := .double) (by decide)
    refine own_go st1 ?_
    show own_Go p e below _ (T1.setTop (mkF m 73 #[.val (.int x0), .val (.int x1), .val (.long x2), .second, .val (.long x3), .second, .val (.int x4), .val (.int x5), .val (.int n), .val (.int y), .val (.long x3), .second, .val (.long u), .second, .unset, .unset, .unset, .unset, .unset] [(.ref a1)]))
    refine own_go (fun _ => XS.dup X1.here hx rfl (hb hby at_73) rfl rfl) ?_
    show own_Go p e below _ (T1.setTop (mkF m 74 #[.val (.int x0), .val (.int x1), .val (.long x2), .second, .val (.long x3), .second, .val (.int x4), .val (.int x5), .val (.int n), .val (.int y), .val (.long x3), .second, .val (.long u), .second, .unset, .unset, .unset, .unset, .unset] [(.ref a1), (.ref a1)]))
    refine own_go (fun _ => XS.iload X1.here hx rfl (hb hby at_74) rfl) ?_
    show own_Go p e below _ (T1.setTop (mkF m 76 #[.val (.int x0), .val (.int x1), .val (.long x2), .second, .val (.long x3), .second, .val (.int x4), .val (.int x5), .val (.int n), .val (.int y), .val (.long x3), .second, .val (.long u), .second, .unset, .unset, .unset, .unset, .unset] [(.int n), (.ref a1), (.ref a1)]))
    refine own_go (fun _ => XS.iload X1.here hx rfl (hb hby at_76) rfl) ?_
    show own_Go p e below _ (T1.setTop (mkF m 78 #[.val (.int x0), .val (.int x1), .val (.long x2), .second, .val (.long x3), .second, .val (.int x4), .val (.int x5), .val (.int n), .val (.int y), .val (.long x3), .second, .val (.long u), .second, .unset, .unset, .unset, .unset, .unset] [(.int y), (.int n), (.ref a1), (.ref a1)]))
    have ga : h0.size ≤ a1 := Nat.le_of_eq q1.symm
    obtain ⟨_, T2, L2, X2, ⟨rfl, Nc2, Kc2, fs⟩, st2⟩ := own_callI X1 hx hZ hown rfl (argsL := [(.int n), (.int y)]) (rest := [(.ref a1)]) (own_init_con l Z a0 hw a1 n y h0.size h1 C1 o_samples_1 o_sampleSeconds_1 o_sampleMillis_1 o_wholeSampleSeconds_1 o_endSeconds_1 hn hy ga []) e1 (hw _ (List.mem_of_getElem? (i := 5) rfl)) (hw _ (List.mem_of_getElem? (i := 6) rfl)) (hw _ (List.mem_of_getElem? (i := 4) rfl)) (hw _ (List.mem_of_getElem? (i := 7) rfl)) (by decide) (by decide +kernel : parseMethodDescriptor "(II)V" = some ⟨[.int, .int], none⟩) rfl (g := (mkF m 78 #[.val (.int x0), .val (.int x1), .val (.long x2), .second, .val (.long x3), .second, .val (.int x4), .val (.int x5), .val (.int n), .val (.int y), .val (.long x3), .second, .val (.long u), .second, .unset, .unset, .unset, .unset, .unset] [(.int y), (.int n), (.ref a1), (.ref a1)])) rfl (by rw [hml]; rfl) rfl 1 (by show 2 * 0 + _ ≤ _; exact Nat.le_of_eq rfl) (hb hby at_78) (by decide) (by decide) (by decide) (by decide)
    have N2 := Fr.app N0 Nc2
    have o_E_2 := C1.keep Kc2
    refine own_go st2 ?_
    show own_Go p e below _ (T2.setTop (mkF m 81 #[.val (.int x0), .val (.int x1), .val (.long x2), .second, .val (.long x3), .second, .val (.int x4), .val (.int x5), .val (.int n), .val (.int y), .val (.long x3), .second, .val (.long u), .second, .unset, .unset, .unset, .unset, .unset] [(.ref a1)]))
    refine own_go (fun _ => XS.astore X2.here hx rfl (hb hby at_81) rfl rfl (l' := #[.val (.int x0), .val (.int x1), .val (.long x2), .second, .val (.long x3), .second, .val (.int x4), .val (.int x5), .val (.int n), .val (.int y), .val (.long x3), .second, .val (.long u), .second, .val (.ref a1), .unset, .unset, .unset, .unset]) rfl) ?_
    show own_Go p e below _ (T2.setTop (mkF m 83 #[.val (.int x0), .val (.int x1), .val (.long x2), .second, .val (.long x3), .second, .val (.int x4), .val (.int x5), .val (.int n), .val (.int y), .val (.long x3), .second, .val (.long u), .second, .val (.ref a1), .unset, .unset, .unset, .unset] []))
    refine own_go (fun _ => XS.aload X2.here hx rfl (hb hby at_83) rfl rfl) ?_
    show own_Go p e below _ (T2.setTop (mkF m 85 #[.val (.int x0), .val (.int x1), .val (.long x2), .second, .val (.long x3), .second, .val (.int x4), .val (.int x5), .val (.int n), .val (.int y), .val (.long x3), .second, .val (.long u), .second, .val (.ref a1), .unset, .unset, .unset, .unset] [(.ref a1)]))
    refine own_go (fun _ => XT.lload X2.here hx rfl (hb hby at_85) rfl) ?_
    show own_Go p e below _ (T2.setTop (mkF m 87 #[.val (.int x0), .val (.int x1), .val (.long x2), .second, .val (.long x3), .second, .val (.int x4), .val (.int x5), .val (.int n), .val (.int y), .val (.long x3), .second, .val (.long u), .second, .val (.ref a1), .unset, .unset, .unset, .unset] [(.long u), (.ref a1)]))
    refine own_go (fun _ => XT.lload X2.here hx rfl (hb hby at_87) rfl) ?_
    show own_Go p e below _ (T2.setTop (mkF m 89 #[.val (.int x0), .val (.int x1), .val (.long x2), .second, .val (.long x3), .second, .val (.int x4), .val (.int x5), .val (.int n), .val (.int y), .val (.long x3), .second, .val (.long u), .second, .val (.ref a1), .unset, .unset, .unset, .unset] [(.long x3), (.long u), (.ref a1)]))
    obtain ⟨_, T3, L3, X3, ⟨rfl, eh3, rfl⟩, st3⟩ := own_callV X2 hx hZ hown (argsL := [(.long u), (.long x3)]) (rest := []) (own_holds_con l Z a0 hw a1 n u x3 T2.heap fs []) rfl o_E_2 (hw _ (List.mem_of_getElem? (i := 27) rfl)) (hw _ (List.mem_of_getElem? (i := 28) rfl)) (hw _ (List.mem_of_getElem? (i := 30) rfl)) (hw _ (List.mem_of_getElem? (i := 29) rfl)) (hw _ (List.mem_of_getElem? (i := 4) rfl)) (hw _ (List.mem_of_getElem? (i := 31) rfl)) (notFace_of_selects (args := #[]) (mvT hZ (hw _ (List.mem_of_getElem? (i := 30) rfl)))) (by decide) (by decide +kernel : parseMethodDescriptor "(JJ)Z" = some ⟨[.long, .long], some .boolean⟩) rfl (g := (mkF m 89 #[.val (.int x0), .val (.int x1), .val (.long x2), .second, .val (.long x3), .second, .val (.int x4), .val (.int x5), .val (.int n), .val (.int y), .val (.long x3), .second, .val (.long u), .second, .val (.ref a1), .unset, .unset, .unset, .unset] [(.long x3), (.long u), (.ref a1)])) rfl (by rw [hml]; rfl) rfl 0 (by show 2 * 0 + _ ≤ _; exact Nat.le_of_eq rfl) (hb hby at_89) (by decide) (by decide) (by decide) (by decide)
    rw [List.append_nil] at X3
    refine own_go st3 ?_
    show own_Go p e below _ (T3.setTop (mkF m 92 #[.val (.int x0), .val (.int x1), .val (.long x2), .second, .val (.long x3), .second, .val (.int x4), .val (.int x5), .val (.int n), .val (.int y), .val (.long x3), .second, .val (.long u), .second, .val (.ref a1), .unset, .unset, .unset, .unset] [(.int (own_holds n u x3))]))
    refine own_go (fun _ => XS.istore X3.here hx rfl (hb hby at_92) rfl (l' := #[.val (.int x0), .val (.int x1), .val (.long x2), .second, .val (.long x3), .second, .val (.int x4), .val (.int x5), .val (.int n), .val (.int y), .val (.long x3), .second, .val (.long u), .second, .val (.ref a1), .val (.int (own_holds n u x3)), .unset, .unset, .unset]) rfl) ?_
    show own_Go p e below _ (T3.setTop (mkF m 94 #[.val (.int x0), .val (.int x1), .val (.long x2), .second, .val (.long x3), .second, .val (.int x4), .val (.int x5), .val (.int n), .val (.int y), .val (.long x3), .second, .val (.long u), .second, .val (.ref a1), .val (.int (own_holds n u x3)), .unset, .unset, .unset] []))
    refine own_go (fun _ => XT.lload X3.here hx rfl (hb hby at_94) rfl) ?_
    show own_Go p e below _ (T3.setTop (mkF m 96 #[.val (.int x0), .val (.int x1), .val (.long x2), .second, .val (.long x3), .second, .val (.int x4), .val (.int x5), .val (.int n), .val (.int y), .val (.long x3), .second, .val (.long u), .second, .val (.ref a1), .val (.int (own_holds n u x3)), .unset, .unset, .unset] [(.long u)]))
    refine own_go (fun _ => XT.lload X3.here hx rfl (hb hby at_96) rfl) ?_
    show own_Go p e below _ (T3.setTop (mkF m 98 #[.val (.int x0), .val (.int x1), .val (.long x2), .second, .val (.long x3), .second, .val (.int x4), .val (.int x5), .val (.int n), .val (.int y), .val (.long x3), .second, .val (.long u), .second, .val (.ref a1), .val (.int (own_holds n u x3)), .unset, .unset, .unset] [(.long x3), (.long u)]))
    refine own_go (fun _ => XT.lcmp X3.here hx rfl (hb hby at_98) rfl) ?_
    show own_Go p e below _ (T3.setTop (mkF m 99 #[.val (.int x0), .val (.int x1), .val (.long x2), .second, .val (.long x3), .second, .val (.int x4), .val (.int x5), .val (.int n), .val (.int y), .val (.long x3), .second, .val (.long u), .second, .val (.ref a1), .val (.int (own_holds n u x3)), .unset, .unset, .unset] [(.int (XT.cmpL u x3))]))
    have key := own_law n u x3 hn hv
    unfold own_exp at key
    by_cases c1 : x3 < u
    · skip
      rw [if_pos c1] at key
      refine own_go (fun _ => XS.ifNo X3.here hx rfl (hb hby at_99) rfl (XT.ll_le_f c1)) ?_
      show own_Go p e below _ (T3.setTop (mkF m 102 #[.val (.int x0), .val (.int x1), .val (.long x2), .second, .val (.long x3), .second, .val (.int x4), .val (.int x5), .val (.int n), .val (.int y), .val (.long x3), .second, .val (.long u), .second, .val (.ref a1), .val (.int (own_holds n u x3)), .unset, .unset, .unset] []))
      refine own_go (fun _ => XS.iconst X3.here hx rfl (hb hby at_102)) ?_
      show own_Go p e below _ (T3.setTop (mkF m 103 #[.val (.int x0), .val (.int x1), .val (.long x2), .second, .val (.long x3), .second, .val (.int x4), .val (.int x5), .val (.int n), .val (.int y), .val (.long x3), .second, .val (.long u), .second, .val (.ref a1), .val (.int (own_holds n u x3)), .unset, .unset, .unset] [(.int (0 : Int32))]))
      refine own_go (fun _ => XS.istore X3.here hx rfl (hb hby at_103) rfl (l' := #[.val (.int x0), .val (.int x1), .val (.long x2), .second, .val (.long x3), .second, .val (.int x4), .val (.int x5), .val (.int n), .val (.int y), .val (.long x3), .second, .val (.long u), .second, .val (.ref a1), .val (.int (own_holds n u x3)), .val (.int (0 : Int32)), .unset, .unset]) rfl) ?_
      show own_Go p e below _ (T3.setTop (mkF m 105 #[.val (.int x0), .val (.int x1), .val (.long x2), .second, .val (.long x3), .second, .val (.int x4), .val (.int x5), .val (.int n), .val (.int y), .val (.long x3), .second, .val (.long u), .second, .val (.ref a1), .val (.int (own_holds n u x3)), .val (.int (0 : Int32)), .unset, .unset] []))
      refine own_go (fun _ => XS.goto X3.here hx rfl (pc0 := 105) (pc' := 138) rfl (hb hby at_105) (by decide) (by decide)) ?_
      show own_Go p e below _ (T3.setTop (mkF m 138 #[.val (.int x0), .val (.int x1), .val (.long x2), .second, .val (.long x3), .second, .val (.int x4), .val (.int x5), .val (.int n), .val (.int y), .val (.long x3), .second, .val (.long u), .second, .val (.ref a1), .val (.int (own_holds n u x3)), .val (.int (0 : Int32)), .unset, .unset] []))
      refine own_go (fun _ => XS.iload X3.here hx rfl (hb hby at_138) rfl) ?_
      show own_Go p e below _ (T3.setTop (mkF m 140 #[.val (.int x0), .val (.int x1), .val (.long x2), .second, .val (.long x3), .second, .val (.int x4), .val (.int x5), .val (.int n), .val (.int y), .val (.long x3), .second, .val (.long u), .second, .val (.ref a1), .val (.int (own_holds n u x3)), .val (.int (0 : Int32)), .unset, .unset] [(.int (own_holds n u x3))]))
      refine own_go (fun _ => XS.iload X3.here hx rfl (hb hby at_140) rfl) ?_
      show own_Go p e below _ (T3.setTop (mkF m 142 #[.val (.int x0), .val (.int x1), .val (.long x2), .second, .val (.long x3), .second, .val (.int x4), .val (.int x5), .val (.int n), .val (.int y), .val (.long x3), .second, .val (.long u), .second, .val (.ref a1), .val (.int (own_holds n u x3)), .val (.int (0 : Int32)), .unset, .unset] [(.int (0 : Int32)), (.int (own_holds n u x3))]))
      refine own_go (fun _ => XS.icmpNo X3.here hx rfl (hb hby at_142) rfl (XT.ii_ne_f key)) ?_
      show own_Go p e below _ (T3.setTop (mkF m 145 #[.val (.int x0), .val (.int x1), .val (.long x2), .second, .val (.long x3), .second, .val (.int x4), .val (.int x5), .val (.int n), .val (.int y), .val (.long x3), .second, .val (.long u), .second, .val (.ref a1), .val (.int (own_holds n u x3)), .val (.int (0 : Int32)), .unset, .unset] []))
      refine own_go (fun _ => XS.iconst X3.here hx rfl (hb hby at_145)) ?_
      show own_Go p e below _ (T3.setTop (mkF m 146 #[.val (.int x0), .val (.int x1), .val (.long x2), .second, .val (.long x3), .second, .val (.int x4), .val (.int x5), .val (.int n), .val (.int y), .val (.long x3), .second, .val (.long u), .second, .val (.ref a1), .val (.int (own_holds n u x3)), .val (.int (0 : Int32)), .unset, .unset] [(.int (1 : Int32))]))
      refine own_go (fun _ => XS.goto X3.here hx rfl (pc0 := 146) (pc' := 150) rfl (hb hby at_146) (by decide) (by decide)) ?_
      show own_Go p e below _ (T3.setTop (mkF m 150 #[.val (.int x0), .val (.int x1), .val (.long x2), .second, .val (.long x3), .second, .val (.int x4), .val (.int x5), .val (.int n), .val (.int y), .val (.long x3), .second, .val (.long u), .second, .val (.ref a1), .val (.int (own_holds n u x3)), .val (.int (0 : Int32)), .unset, .unset] [(.int (1 : Int32))]))
      exact own_iret X3 hx hlk hret (Or.inr (Or.inl rfl)) rfl (hb hby at_150) (by decide) (by decide) ⟨rfl, N2⟩
    · skip
      rw [if_neg c1] at key
      refine own_go (fun _ => XS.ifYes X3.here hx rfl (pc0 := 99) (pc' := 108) rfl (hb hby at_99) rfl (XT.ll_le_t c1) (by decide) (by decide)) ?_
      show own_Go p e below _ (T3.setTop (mkF m 108 #[.val (.int x0), .val (.int x1), .val (.long x2), .second, .val (.long x3), .second, .val (.int x4), .val (.int x5), .val (.int n), .val (.int y), .val (.long x3), .second, .val (.long u), .second, .val (.ref a1), .val (.int (own_holds n u x3)), .unset, .unset, .unset] []))
      refine own_go (fun _ => XT.lload X3.here hx rfl (hb hby at_108) rfl) ?_
      show own_Go p e below _ (T3.setTop (mkF m 110 #[.val (.int x0), .val (.int x1), .val (.long x2), .second, .val (.long x3), .second, .val (.int x4), .val (.int x5), .val (.int n), .val (.int y), .val (.long x3), .second, .val (.long u), .second, .val (.ref a1), .val (.int (own_holds n u x3)), .unset, .unset, .unset] [(.long x3)]))
      refine own_go (fun _ => XT.lload X3.here hx rfl (hb hby at_110) rfl) ?_
      show own_Go p e below _ (T3.setTop (mkF m 112 #[.val (.int x0), .val (.int x1), .val (.long x2), .second, .val (.long x3), .second, .val (.int x4), .val (.int x5), .val (.int n), .val (.int y), .val (.long x3), .second, .val (.long u), .second, .val (.ref a1), .val (.int (own_holds n u x3)), .unset, .unset, .unset] [(.long u), (.long x3)]))
      refine own_go (fun _ => XT.lsub X3.here hx rfl (hb hby at_112) rfl) ?_
      show own_Go p e below _ (T3.setTop (mkF m 113 #[.val (.int x0), .val (.int x1), .val (.long x2), .second, .val (.long x3), .second, .val (.int x4), .val (.int x5), .val (.int n), .val (.int y), .val (.long x3), .second, .val (.long u), .second, .val (.ref a1), .val (.int (own_holds n u x3)), .unset, .unset, .unset] [(.long (x3 - u))]))
      refine own_go (fun _ => XT.lstore X3.here hx rfl (hb hby at_113) rfl (l' := #[.val (.int x0), .val (.int x1), .val (.long x2), .second, .val (.long x3), .second, .val (.int x4), .val (.int x5), .val (.int n), .val (.int y), .val (.long x3), .second, .val (.long u), .second, .val (.ref a1), .val (.int (own_holds n u x3)), .unset, .val (.long (x3 - u)), .second]) rfl) ?_
      show own_Go p e below _ (T3.setTop (mkF m 115 #[.val (.int x0), .val (.int x1), .val (.long x2), .second, .val (.long x3), .second, .val (.int x4), .val (.int x5), .val (.int n), .val (.int y), .val (.long x3), .second, .val (.long u), .second, .val (.ref a1), .val (.int (own_holds n u x3)), .unset, .val (.long (x3 - u)), .second] []))
      refine own_go (fun _ => XT.lload X3.here hx rfl (hb hby at_115) rfl) ?_
      show own_Go p e below _ (T3.setTop (mkF m 117 #[.val (.int x0), .val (.int x1), .val (.long x2), .second, .val (.long x3), .second, .val (.int x4), .val (.int x5), .val (.int n), .val (.int y), .val (.long x3), .second, .val (.long u), .second, .val (.ref a1), .val (.int (own_holds n u x3)), .unset, .val (.long (x3 - u)), .second] [(.long (x3 - u))]))
      refine own_go (fun _ => XT.lconst X3.here hx rfl (hb hby at_117)) ?_
      show own_Go p e below _ (T3.setTop (mkF m 118 #[.val (.int x0), .val (.int x1), .val (.long x2), .second, .val (.long x3), .second, .val (.int x4), .val (.int x5), .val (.int n), .val (.int y), .val (.long x3), .second, .val (.long u), .second, .val (.ref a1), .val (.int (own_holds n u x3)), .unset, .val (.long (x3 - u)), .second] [(.long (0 : Int64)), (.long (x3 - u))]))
      refine own_go (fun _ => XT.lcmp X3.here hx rfl (hb hby at_118) rfl) ?_
      show own_Go p e below _ (T3.setTop (mkF m 119 #[.val (.int x0), .val (.int x1), .val (.long x2), .second, .val (.long x3), .second, .val (.int x4), .val (.int x5), .val (.int n), .val (.int y), .val (.long x3), .second, .val (.long u), .second, .val (.ref a1), .val (.int (own_holds n u x3)), .unset, .val (.long (x3 - u)), .second] [(.int (XT.cmpL (x3 - u) (0 : Int64)))]))
      by_cases c2 : (x3 - u) < (0 : Int64)
      · skip
        rw [if_pos c2] at key
        refine own_go (fun _ => XS.ifYes X3.here hx rfl (pc0 := 119) (pc' := 135) rfl (hb hby at_119) rfl (XT.ll_lt_t c2) (by decide) (by decide)) ?_
        show own_Go p e below _ (T3.setTop (mkF m 135 #[.val (.int x0), .val (.int x1), .val (.long x2), .second, .val (.long x3), .second, .val (.int x4), .val (.int x5), .val (.int n), .val (.int y), .val (.long x3), .second, .val (.long u), .second, .val (.ref a1), .val (.int (own_holds n u x3)), .unset, .val (.long (x3 - u)), .second] []))
        refine own_go (fun _ => XS.iconst X3.here hx rfl (hb hby at_135)) ?_
        show own_Go p e below _ (T3.setTop (mkF m 136 #[.val (.int x0), .val (.int x1), .val (.long x2), .second, .val (.long x3), .second, .val (.int x4), .val (.int x5), .val (.int n), .val (.int y), .val (.long x3), .second, .val (.long u), .second, .val (.ref a1), .val (.int (own_holds n u x3)), .unset, .val (.long (x3 - u)), .second] [(.int (0 : Int32))]))
        refine own_go (fun _ => XS.istore X3.here hx rfl (hb hby at_136) rfl (l' := #[.val (.int x0), .val (.int x1), .val (.long x2), .second, .val (.long x3), .second, .val (.int x4), .val (.int x5), .val (.int n), .val (.int y), .val (.long x3), .second, .val (.long u), .second, .val (.ref a1), .val (.int (own_holds n u x3)), .val (.int (0 : Int32)), .val (.long (x3 - u)), .second]) rfl) ?_
        show own_Go p e below _ (T3.setTop (mkF m 138 #[.val (.int x0), .val (.int x1), .val (.long x2), .second, .val (.long x3), .second, .val (.int x4), .val (.int x5), .val (.int n), .val (.int y), .val (.long x3), .second, .val (.long u), .second, .val (.ref a1), .val (.int (own_holds n u x3)), .val (.int (0 : Int32)), .val (.long (x3 - u)), .second] []))
        refine own_go (fun _ => XS.iload X3.here hx rfl (hb hby at_138) rfl) ?_
        show own_Go p e below _ (T3.setTop (mkF m 140 #[.val (.int x0), .val (.int x1), .val (.long x2), .second, .val (.long x3), .second, .val (.int x4), .val (.int x5), .val (.int n), .val (.int y), .val (.long x3), .second, .val (.long u), .second, .val (.ref a1), .val (.int (own_holds n u x3)), .val (.int (0 : Int32)), .val (.long (x3 - u)), .second] [(.int (own_holds n u x3))]))
        refine own_go (fun _ => XS.iload X3.here hx rfl (hb hby at_140) rfl) ?_
        show own_Go p e below _ (T3.setTop (mkF m 142 #[.val (.int x0), .val (.int x1), .val (.long x2), .second, .val (.long x3), .second, .val (.int x4), .val (.int x5), .val (.int n), .val (.int y), .val (.long x3), .second, .val (.long u), .second, .val (.ref a1), .val (.int (own_holds n u x3)), .val (.int (0 : Int32)), .val (.long (x3 - u)), .second] [(.int (0 : Int32)), (.int (own_holds n u x3))]))
        refine own_go (fun _ => XS.icmpNo X3.here hx rfl (hb hby at_142) rfl (XT.ii_ne_f key)) ?_
        show own_Go p e below _ (T3.setTop (mkF m 145 #[.val (.int x0), .val (.int x1), .val (.long x2), .second, .val (.long x3), .second, .val (.int x4), .val (.int x5), .val (.int n), .val (.int y), .val (.long x3), .second, .val (.long u), .second, .val (.ref a1), .val (.int (own_holds n u x3)), .val (.int (0 : Int32)), .val (.long (x3 - u)), .second] []))
        refine own_go (fun _ => XS.iconst X3.here hx rfl (hb hby at_145)) ?_
        show own_Go p e below _ (T3.setTop (mkF m 146 #[.val (.int x0), .val (.int x1), .val (.long x2), .second, .val (.long x3), .second, .val (.int x4), .val (.int x5), .val (.int n), .val (.int y), .val (.long x3), .second, .val (.long u), .second, .val (.ref a1), .val (.int (own_holds n u x3)), .val (.int (0 : Int32)), .val (.long (x3 - u)), .second] [(.int (1 : Int32))]))
        refine own_go (fun _ => XS.goto X3.here hx rfl (pc0 := 146) (pc' := 150) rfl (hb hby at_146) (by decide) (by decide)) ?_
        show own_Go p e below _ (T3.setTop (mkF m 150 #[.val (.int x0), .val (.int x1), .val (.long x2), .second, .val (.long x3), .second, .val (.int x4), .val (.int x5), .val (.int n), .val (.int y), .val (.long x3), .second, .val (.long u), .second, .val (.ref a1), .val (.int (own_holds n u x3)), .val (.int (0 : Int32)), .val (.long (x3 - u)), .second] [(.int (1 : Int32))]))
        exact own_iret X3 hx hlk hret (Or.inr (Or.inl rfl)) rfl (hb hby at_150) (by decide) (by decide) ⟨rfl, N2⟩
      · skip
        rw [if_neg c2] at key
        refine own_go (fun _ => XS.ifNo X3.here hx rfl (hb hby at_119) rfl (XT.ll_lt_f c2)) ?_
        show own_Go p e below _ (T3.setTop (mkF m 122 #[.val (.int x0), .val (.int x1), .val (.long x2), .second, .val (.long x3), .second, .val (.int x4), .val (.int x5), .val (.int n), .val (.int y), .val (.long x3), .second, .val (.long u), .second, .val (.ref a1), .val (.int (own_holds n u x3)), .unset, .val (.long (x3 - u)), .second] []))
        refine own_go (fun _ => XT.lload X3.here hx rfl (hb hby at_122) rfl) ?_
        show own_Go p e below _ (T3.setTop (mkF m 124 #[.val (.int x0), .val (.int x1), .val (.long x2), .second, .val (.long x3), .second, .val (.int x4), .val (.int x5), .val (.int n), .val (.int y), .val (.long x3), .second, .val (.long u), .second, .val (.ref a1), .val (.int (own_holds n u x3)), .unset, .val (.long (x3 - u)), .second] [(.long (x3 - u))]))
        refine own_go (fun _ => XS.iload X3.here hx rfl (hb hby at_124) rfl) ?_
        show own_Go p e below _ (T3.setTop (mkF m 126 #[.val (.int x0), .val (.int x1), .val (.long x2), .second, .val (.long x3), .second, .val (.int x4), .val (.int x5), .val (.int n), .val (.int y), .val (.long x3), .second, .val (.long u), .second, .val (.ref a1), .val (.int (own_holds n u x3)), .unset, .val (.long (x3 - u)), .second] [(.int n), (.long (x3 - u))]))
        refine own_go (fun _ => XT.i2l X3.here hx rfl (hb hby at_126) rfl) ?_
        show own_Go p e below _ (T3.setTop (mkF m 127 #[.val (.int x0), .val (.int x1), .val (.long x2), .second, .val (.long x3), .second, .val (.int x4), .val (.int x5), .val (.int n), .val (.int y), .val (.long x3), .second, .val (.long u), .second, .val (.ref a1), .val (.int (own_holds n u x3)), .unset, .val (.long (x3 - u)), .second] [(.long (n.toInt64)), (.long (x3 - u))]))
        refine own_go (fun _ => XT.lcmp X3.here hx rfl (hb hby at_127) rfl) ?_
        show own_Go p e below _ (T3.setTop (mkF m 128 #[.val (.int x0), .val (.int x1), .val (.long x2), .second, .val (.long x3), .second, .val (.int x4), .val (.int x5), .val (.int n), .val (.int y), .val (.long x3), .second, .val (.long u), .second, .val (.ref a1), .val (.int (own_holds n u x3)), .unset, .val (.long (x3 - u)), .second] [(.int (XT.cmpL (x3 - u) (n.toInt64)))]))
        by_cases c3 : (x3 - u) < (n.toInt64)
        · skip
          rw [if_pos c3] at key
          refine own_go (fun _ => XS.ifNo X3.here hx rfl (hb hby at_128) rfl (XT.ll_ge_f c3)) ?_
          show own_Go p e below _ (T3.setTop (mkF m 131 #[.val (.int x0), .val (.int x1), .val (.long x2), .second, .val (.long x3), .second, .val (.int x4), .val (.int x5), .val (.int n), .val (.int y), .val (.long x3), .second, .val (.long u), .second, .val (.ref a1), .val (.int (own_holds n u x3)), .unset, .val (.long (x3 - u)), .second] []))
          refine own_go (fun _ => XS.iconst X3.here hx rfl (hb hby at_131)) ?_
          show own_Go p e below _ (T3.setTop (mkF m 132 #[.val (.int x0), .val (.int x1), .val (.long x2), .second, .val (.long x3), .second, .val (.int x4), .val (.int x5), .val (.int n), .val (.int y), .val (.long x3), .second, .val (.long u), .second, .val (.ref a1), .val (.int (own_holds n u x3)), .unset, .val (.long (x3 - u)), .second] [(.int (1 : Int32))]))
          refine own_go (fun _ => XS.goto X3.here hx rfl (pc0 := 132) (pc' := 136) rfl (hb hby at_132) (by decide) (by decide)) ?_
          show own_Go p e below _ (T3.setTop (mkF m 136 #[.val (.int x0), .val (.int x1), .val (.long x2), .second, .val (.long x3), .second, .val (.int x4), .val (.int x5), .val (.int n), .val (.int y), .val (.long x3), .second, .val (.long u), .second, .val (.ref a1), .val (.int (own_holds n u x3)), .unset, .val (.long (x3 - u)), .second] [(.int (1 : Int32))]))
          refine own_go (fun _ => XS.istore X3.here hx rfl (hb hby at_136) rfl (l' := #[.val (.int x0), .val (.int x1), .val (.long x2), .second, .val (.long x3), .second, .val (.int x4), .val (.int x5), .val (.int n), .val (.int y), .val (.long x3), .second, .val (.long u), .second, .val (.ref a1), .val (.int (own_holds n u x3)), .val (.int (1 : Int32)), .val (.long (x3 - u)), .second]) rfl) ?_
          show own_Go p e below _ (T3.setTop (mkF m 138 #[.val (.int x0), .val (.int x1), .val (.long x2), .second, .val (.long x3), .second, .val (.int x4), .val (.int x5), .val (.int n), .val (.int y), .val (.long x3), .second, .val (.long u), .second, .val (.ref a1), .val (.int (own_holds n u x3)), .val (.int (1 : Int32)), .val (.long (x3 - u)), .second] []))
          refine own_go (fun _ => XS.iload X3.here hx rfl (hb hby at_138) rfl) ?_
          show own_Go p e below _ (T3.setTop (mkF m 140 #[.val (.int x0), .val (.int x1), .val (.long x2), .second, .val (.long x3), .second, .val (.int x4), .val (.int x5), .val (.int n), .val (.int y), .val (.long x3), .second, .val (.long u), .second, .val (.ref a1), .val (.int (own_holds n u x3)), .val (.int (1 : Int32)), .val (.long (x3 - u)), .second] [(.int (own_holds n u x3))]))
          refine own_go (fun _ => XS.iload X3.here hx rfl (hb hby at_140) rfl) ?_
          show own_Go p e below _ (T3.setTop (mkF m 142 #[.val (.int x0), .val (.int x1), .val (.long x2), .second, .val (.long x3), .second, .val (.int x4), .val (.int x5), .val (.int n), .val (.int y), .val (.long x3), .second, .val (.long u), .second, .val (.ref a1), .val (.int (own_holds n u x3)), .val (.int (1 : Int32)), .val (.long (x3 - u)), .second] [(.int (1 : Int32)), (.int (own_holds n u x3))]))
          refine own_go (fun _ => XS.icmpNo X3.here hx rfl (hb hby at_142) rfl (XT.ii_ne_f key)) ?_
          show own_Go p e below _ (T3.setTop (mkF m 145 #[.val (.int x0), .val (.int x1), .val (.long x2), .second, .val (.long x3), .second, .val (.int x4), .val (.int x5), .val (.int n), .val (.int y), .val (.long x3), .second, .val (.long u), .second, .val (.ref a1), .val (.int (own_holds n u x3)), .val (.int (1 : Int32)), .val (.long (x3 - u)), .second] []))
          refine own_go (fun _ => XS.iconst X3.here hx rfl (hb hby at_145)) ?_
          show own_Go p e below _ (T3.setTop (mkF m 146 #[.val (.int x0), .val (.int x1), .val (.long x2), .second, .val (.long x3), .second, .val (.int x4), .val (.int x5), .val (.int n), .val (.int y), .val (.long x3), .second, .val (.long u), .second, .val (.ref a1), .val (.int (own_holds n u x3)), .val (.int (1 : Int32)), .val (.long (x3 - u)), .second] [(.int (1 : Int32))]))
          refine own_go (fun _ => XS.goto X3.here hx rfl (pc0 := 146) (pc' := 150) rfl (hb hby at_146) (by decide) (by decide)) ?_
          show own_Go p e below _ (T3.setTop (mkF m 150 #[.val (.int x0), .val (.int x1), .val (.long x2), .second, .val (.long x3), .second, .val (.int x4), .val (.int x5), .val (.int n), .val (.int y), .val (.long x3), .second, .val (.long u), .second, .val (.ref a1), .val (.int (own_holds n u x3)), .val (.int (1 : Int32)), .val (.long (x3 - u)), .second] [(.int (1 : Int32))]))
          exact own_iret X3 hx hlk hret (Or.inr (Or.inl rfl)) rfl (hb hby at_150) (by decide) (by decide) ⟨rfl, N2⟩
        · skip
          rw [if_neg c3] at key
          refine own_go (fun _ => XS.ifYes X3.here hx rfl (pc0 := 128) (pc' := 135) rfl (hb hby at_128) rfl (XT.ll_ge_t c3) (by decide) (by decide)) ?_
          show own_Go p e below _ (T3.setTop (mkF m 135 #[.val (.int x0), .val (.int x1), .val (.long x2), .second, .val (.long x3), .second, .val (.int x4), .val (.int x5), .val (.int n), .val (.int y), .val (.long x3), .second, .val (.long u), .second, .val (.ref a1), .val (.int (own_holds n u x3)), .unset, .val (.long (x3 - u)), .second] []))
          refine own_go (fun _ => XS.iconst X3.here hx rfl (hb hby at_135)) ?_
          show own_Go p e below _ (T3.setTop (mkF m 136 #[.val (.int x0), .val (.int x1), .val (.long x2), .second, .val (.long x3), .second, .val (.int x4), .val (.int x5), .val (.int n), .val (.int y), .val (.long x3), .second, .val (.long u), .second, .val (.ref a1), .val (.int (own_holds n u x3)), .unset, .val (.long (x3 - u)), .second] [(.int (0 : Int32))]))
          refine own_go (fun _ => XS.istore X3.here hx rfl (hb hby at_136) rfl (l' := #[.val (.int x0), .val (.int x1), .val (.long x2), .second, .val (.long x3), .second, .val (.int x4), .val (.int x5), .val (.int n), .val (.int y), .val (.long x3), .second, .val (.long u), .second, .val (.ref a1), .val (.int (own_holds n u x3)), .val (.int (0 : Int32)), .val (.long (x3 - u)), .second]) rfl) ?_
          show own_Go p e below _ (T3.setTop (mkF m 138 #[.val (.int x0), .val (.int x1), .val (.long x2), .second, .val (.long x3), .second, .val (.int x4), .val (.int x5), .val (.int n), .val (.int y), .val (.long x3), .second, .val (.long u), .second, .val (.ref a1), .val (.int (own_holds n u x3)), .val (.int (0 : Int32)), .val (.long (x3 - u)), .second] []))
          refine own_go (fun _ => XS.iload X3.here hx rfl (hb hby at_138) rfl) ?_
          show own_Go p e below _ (T3.setTop (mkF m 140 #[.val (.int x0), .val (.int x1), .val (.long x2), .second, .val (.long x3), .second, .val (.int x4), .val (.int x5), .val (.int n), .val (.int y), .val (.long x3), .second, .val (.long u), .second, .val (.ref a1), .val (.int (own_holds n u x3)), .val (.int (0 : Int32)), .val (.long (x3 - u)), .second] [(.int (own_holds n u x3))]))
          refine own_go (fun _ => XS.iload X3.here hx rfl (hb hby at_140) rfl) ?_
          show own_Go p e below _ (T3.setTop (mkF m 142 #[.val (.int x0), .val (.int x1), .val (.long x2), .second, .val (.long x3), .second, .val (.int x4), .val (.int x5), .val (.int n), .val (.int y), .val (.long x3), .second, .val (.long u), .second, .val (.ref a1), .val (.int (own_holds n u x3)), .val (.int (0 : Int32)), .val (.long (x3 - u)), .second] [(.int (0 : Int32)), (.int (own_holds n u x3))]))
          refine own_go (fun _ => XS.icmpNo X3.here hx rfl (hb hby at_142) rfl (XT.ii_ne_f key)) ?_
          show own_Go p e below _ (T3.setTop (mkF m 145 #[.val (.int x0), .val (.int x1), .val (.long x2), .second, .val (.long x3), .second, .val (.int x4), .val (.int x5), .val (.int n), .val (.int y), .val (.long x3), .second, .val (.long u), .second, .val (.ref a1), .val (.int (own_holds n u x3)), .val (.int (0 : Int32)), .val (.long (x3 - u)), .second] []))
          refine own_go (fun _ => XS.iconst X3.here hx rfl (hb hby at_145)) ?_
          show own_Go p e below _ (T3.setTop (mkF m 146 #[.val (.int x0), .val (.int x1), .val (.long x2), .second, .val (.long x3), .second, .val (.int x4), .val (.int x5), .val (.int n), .val (.int y), .val (.long x3), .second, .val (.long u), .second, .val (.ref a1), .val (.int (own_holds n u x3)), .val (.int (0 : Int32)), .val (.long (x3 - u)), .second] [(.int (1 : Int32))]))
          refine own_go (fun _ => XS.goto X3.here hx rfl (pc0 := 146) (pc' := 150) rfl (hb hby at_146) (by decide) (by decide)) ?_
          show own_Go p e below _ (T3.setTop (mkF m 150 #[.val (.int x0), .val (.int x1), .val (.long x2), .second, .val (.long x3), .second, .val (.int x4), .val (.int x5), .val (.int n), .val (.int y), .val (.long x3), .second, .val (.long u), .second, .val (.ref a1), .val (.int (own_holds n u x3)), .val (.int (0 : Int32)), .val (.long (x3 - u)), .second] [(.int (1 : Int32))]))
          exact own_iret X3 hx hlk hret (Or.inr (Or.inl rfl)) rfl (hb hby at_150) (by decide) (by decide) ⟨rfl, N2⟩
  have G33 : ∀ (n y : Int32) (hn : ¬ n < 2) (hy : ¬ y < 1), own_Go p e below (own_Out s (own_Q1 h0.size) room_1.cells room_1.slots) (T.setTop (mkF m 33 #[.val (.int x0), .val (.int x1), .val (.long x2), .second, .val (.long x3), .second, .val (.int x4), .val (.int x5), .val (.int n), .val (.int y), .unset, .unset, .unset, .unset, .unset, .unset, .unset, .unset, .unset] [])) := by
    intro n y hn hy
    show own_Go p e below _ (T.setTop (mkF m 33 #[.val (.int x0), .val (.int x1), .val (.long x2), .second, .val (.long x3), .second, .val (.int x4), .val (.int x5), .val (.int n), .val (.int y), .unset, .unset, .unset, .unset, .unset, .unset, .unset, .unset, .unset] []))
    refine own_go (fun _ => XT.lload X.here hx rfl (hb hby at_33) rfl) ?_
    show own_Go p e below _ (T.setTop (mkF m 35 #[.val (.int x0), .val (.int x1), .val (.long x2), .second, .val (.long x3), .second, .val (.int x4), .val (.int x5), .val (.int n), .val (.int y), .unset, .unset, .unset, .unset, .unset, .unset, .unset, .unset, .unset] [(.long x3)]))
    refine own_go (fun _ => XT.lstore X.here hx rfl (hb hby at_35) rfl (l' := #[.val (.int x0), .val (.int x1), .val (.long x2), .second, .val (.long x3), .second, .val (.int x4), .val (.int x5), .val (.int n), .val (.int y), .val (.long x3), .second, .unset, .unset, .unset, .unset, .unset, .unset, .unset]) rfl) ?_
    show own_Go p e below _ (T.setTop (mkF m 37 #[.val (.int x0), .val (.int x1), .val (.long x2), .second, .val (.long x3), .second, .val (.int x4), .val (.int x5), .val (.int n), .val (.int y), .val (.long x3), .second, .unset, .unset, .unset, .unset, .unset, .unset, .unset] []))
    refine own_go (fun _ => XT.lload X.here hx rfl (hb hby at_37) rfl) ?_
    show own_Go p e below _ (T.setTop (mkF m 39 #[.val (.int x0), .val (.int x1), .val (.long x2), .second, .val (.long x3), .second, .val (.int x4), .val (.int x5), .val (.int n), .val (.int y), .val (.long x3), .second, .unset, .unset, .unset, .unset, .unset, .unset, .unset] [(.long x3)]))
    refine own_go (X.ldc2Long hx hown (mvT hZ (hw _ (List.mem_of_getElem? (i := 1) rfl))) (g := (mkF m 39 #[.val (.int x0), .val (.int x1), .val (.long x2), .second, .val (.long x3), .second, .val (.int x4), .val (.int x5), .val (.int n), .val (.int y), .val (.long x3), .second, .unset, .unset, .unset, .unset, .unset, .unset, .unset] [(.long x3)])) rfl (hb hby at_39)) ?_
    show own_Go p e below _ (T.setTop (mkF m 42 #[.val (.int x0), .val (.int x1), .val (.long x2), .second, .val (.long x3), .second, .val (.int x4), .val (.int x5), .val (.int n), .val (.int y), .val (.long x3), .second, .unset, .unset, .unset, .unset, .unset, .unset, .unset] [(.long (-9223372036854775808 : Int64)), (.long x3)]))
    refine own_go (fun _ => XS.iload X.here hx rfl (hb hby at_42) rfl) ?_
    show own_Go p e below _ (T.setTop (mkF m 44 #[.val (.int x0), .val (.int x1), .val (.long x2), .second, .val (.long x3), .second, .val (.int x4), .val (.int x5), .val (.int n), .val (.int y), .val (.long x3), .second, .unset, .unset, .unset, .unset, .unset, .unset, .unset] [(.int n), (.long (-9223372036854775808 : Int64)), (.long x3)]))
    refine own_go (fun _ => XT.i2l X.here hx rfl (hb hby at_44) rfl) ?_
    show own_Go p e below _ (T.setTop (mkF m 45 #[.val (.int x0), .val (.int x1), .val (.long x2), .second, .val (.long x3), .second, .val (.int x4), .val (.int x5), .val (.int n), .val (.int y), .val (.long x3), .second, .unset, .unset, .unset, .unset, .unset, .unset, .unset] [(.long (n.toInt64)), (.long (-9223372036854775808 : Int64)), (.long x3)]))
    refine own_go (fun _ => XT.ladd X.here hx rfl (hb hby at_45) rfl) ?_
    show own_Go p e below _ (T.setTop (mkF m 46 #[.val (.int x0), .val (.int x1), .val (.long x2), .second, .val (.long x3), .second, .val (.int x4), .val (.int x5), .val (.int n), .val (.int y), .val (.long x3), .second, .unset, .unset, .unset, .unset, .unset, .unset, .unset] [(.long ((-9223372036854775808 : Int64) + (n.toInt64))), (.long x3)]))
    refine own_go (fun _ => XT.lcmp X.here hx rfl (hb hby at_46) rfl) ?_
    show own_Go p e below _ (T.setTop (mkF m 47 #[.val (.int x0), .val (.int x1), .val (.long x2), .second, .val (.long x3), .second, .val (.int x4), .val (.int x5), .val (.int n), .val (.int y), .val (.long x3), .second, .unset, .unset, .unset, .unset, .unset, .unset, .unset] [(.int (XT.cmpL x3 ((-9223372036854775808 : Int64) + (n.toInt64))))]))
    by_cases hv : x3 < ((-9223372036854775808 : Int64) + (n.toInt64))
    · skip
      refine own_go (fun _ => XS.ifNo X.here hx rfl (hb hby at_47) rfl (XT.ll_ge_f hv)) ?_
      show own_Go p e below _ (T.setTop (mkF m 50 #[.val (.int x0), .val (.int x1), .val (.long x2), .second, .val (.long x3), .second, .val (.int x4), .val (.int x5), .val (.int n), .val (.int y), .val (.long x3), .second, .unset, .unset, .unset, .unset, .unset, .unset, .unset] []))
      refine own_go (fun _ => XS.iconst X.here hx rfl (hb hby at_50)) ?_
      show own_Go p e below _ (T.setTop (mkF m 51 #[.val (.int x0), .val (.int x1), .val (.long x2), .second, .val (.long x3), .second, .val (.int x4), .val (.int x5), .val (.int n), .val (.int y), .val (.long x3), .second, .unset, .unset, .unset, .unset, .unset, .unset, .unset] [(.int (1 : Int32))]))
      exact own_iret X hx hlk hret (Or.inr (Or.inl rfl)) rfl (hb hby at_51) (by decide) (by decide) ⟨rfl, N0⟩
    · skip
      refine own_go (fun _ => XS.ifYes X.here hx rfl (pc0 := 47) (pc' := 52) rfl (hb hby at_47) rfl (XT.ll_ge_t hv) (by decide) (by decide)) ?_
      show own_Go p e below _ (T.setTop (mkF m 52 #[.val (.int x0), .val (.int x1), .val (.long x2), .second, .val (.long x3), .second, .val (.int x4), .val (.int x5), .val (.int n), .val (.int y), .val (.long x3), .second, .unset, .unset, .unset, .unset, .unset, .unset, .unset] []))
      refine own_go (fun _ => XT.lloadN X.here hx rfl (hb hby at_52) rfl) ?_
      show own_Go p e below _ (T.setTop (mkF m 53 #[.val (.int x0), .val (.int x1), .val (.long x2), .second, .val (.long x3), .second, .val (.int x4), .val (.int x5), .val (.int n), .val (.int y), .val (.long x3), .second, .unset, .unset, .unset, .unset, .unset, .unset, .unset] [(.long x2)]))
      refine own_go (fun _ => XT.lstore X.here hx rfl (hb hby at_53) rfl (l' := #[.val (.int x0), .val (.int x1), .val (.long x2), .second, .val (.long x3), .second, .val (.int x4), .val (.int x5), .val (.int n), .val (.int y), .val (.long x3), .second, .val (.long x2), .second, .unset, .unset, .unset, .unset, .unset]) rfl) ?_
      show own_Go p e below _ (T.setTop (mkF m 55 #[.val (.int x0), .val (.int x1), .val (.long x2), .second, .val (.long x3), .second, .val (.int x4), .val (.int x5), .val (.int n), .val (.int y), .val (.long x3), .second, .val (.long x2), .second, .unset, .unset, .unset, .unset, .unset] []))
      refine own_go (fun _ => XS.iload X.here hx rfl (hb hby at_55) rfl) ?_
      show own_Go p e below _ (T.setTop (mkF m 57 #[.val (.int x0), .val (.int x1), .val (.long x2), .second, .val (.long x3), .second, .val (.int x4), .val (.int x5), .val (.int n), .val (.int y), .val (.long x3), .second, .val (.long x2), .second, .unset, .unset, .unset, .unset, .unset] [(.int x5)]))
      refine own_go (fun _ => XS.iconst X.here hx rfl (hb hby at_57)) ?_
      show own_Go p e below _ (T.setTop (mkF m 58 #[.val (.int x0), .val (.int x1), .val (.long x2), .second, .val (.long x3), .second, .val (.int x4), .val (.int x5), .val (.int n), .val (.int y), .val (.long x3), .second, .val (.long x2), .second, .unset, .unset, .unset, .unset, .unset] [(.int (1 : Int32)), (.int x5)]))
      refine own_go (fun _ => XS.iand X.here hx rfl (hb hby at_58) rfl) ?_
      show own_Go p e below _ (T.setTop (mkF m 59 #[.val (.int x0), .val (.int x1), .val (.long x2), .second, .val (.long x3), .second, .val (.int x4), .val (.int x5), .val (.int n), .val (.int y), .val (.long x3), .second, .val (.long x2), .second, .unset, .unset, .unset, .unset, .unset] [(.int (x5 &&& (1 : Int32)))]))
      by_cases hm : (x5 &&& (1 : Int32)) = (0 : Int32)
      · skip
        refine own_go (fun _ => XS.ifYes X.here hx rfl (pc0 := 59) (pc' := 70) rfl (hb hby at_59) rfl (XT.i0_eq_t hm) (by decide) (by decide)) ?_
        show own_Go p e below _ (T.setTop (mkF m 70 #[.val (.int x0), .val (.int x1), .val (.long x2), .second, .val (.long x3), .second, .val (.int x4), .val (.int x5), .val (.int n), .val (.int y), .val (.long x3), .second, .val (.long x2), .second, .unset, .unset, .unset, .unset, .unset] []))
        exact G70 n y hn hy hv _
      · skip
        refine own_go (fun _ => XS.ifNo X.here hx rfl (hb hby at_59) rfl (XT.i0_eq_f hm)) ?_
        show own_Go p e below _ (T.setTop (mkF m 62 #[.val (.int x0), .val (.int x1), .val (.long x2), .second, .val (.long x3), .second, .val (.int x4), .val (.int x5), .val (.int n), .val (.int y), .val (.long x3), .second, .val (.long x2), .second, .unset, .unset, .unset, .unset, .unset] []))
        refine own_go (fun _ => XT.lload X.here hx rfl (hb hby at_62) rfl) ?_
        show own_Go p e below _ (T.setTop (mkF m 64 #[.val (.int x0), .val (.int x1), .val (.long x2), .second, .val (.long x3), .second, .val (.int x4), .val (.int x5), .val (.int n), .val (.int y), .val (.long x3), .second, .val (.long x2), .second, .unset, .unset, .unset, .unset, .unset] [(.long x3)]))
        refine own_go (fun _ => XS.iload X.here hx rfl (hb hby at_64) rfl) ?_
        show own_Go p e below _ (T.setTop (mkF m 66 #[.val (.int x0), .val (.int x1), .val (.long x2), .second, .val (.long x3), .second, .val (.int x4), .val (.int x5), .val (.int n), .val (.int y), .val (.long x3), .second, .val (.long x2), .second, .unset, .unset, .unset, .unset, .unset] [(.int x4), (.long x3)]))
        refine own_go (fun _ => XT.i2l X.here hx rfl (hb hby at_66) rfl) ?_
        show own_Go p e below _ (T.setTop (mkF m 67 #[.val (.int x0), .val (.int x1), .val (.long x2), .second, .val (.long x3), .second, .val (.int x4), .val (.int x5), .val (.int n), .val (.int y), .val (.long x3), .second, .val (.long x2), .second, .unset, .unset, .unset, .unset, .unset] [(.long (x4.toInt64)), (.long x3)]))
        refine own_go (fun _ => XT.lsub X.here hx rfl (hb hby at_67) rfl) ?_
        show own_Go p e below _ (T.setTop (mkF m 68 #[.val (.int x0), .val (.int x1), .val (.long x2), .second, .val (.long x3), .second, .val (.int x4), .val (.int x5), .val (.int n), .val (.int y), .val (.long x3), .second, .val (.long x2), .second, .unset, .unset, .unset, .unset, .unset] [(.long (x3 - (x4.toInt64)))]))
        refine own_go (fun _ => XT.lstore X.here hx rfl (hb hby at_68) rfl (l' := #[.val (.int x0), .val (.int x1), .val (.long x2), .second, .val (.long x3), .second, .val (.int x4), .val (.int x5), .val (.int n), .val (.int y), .val (.long x3), .second, .val (.long (x3 - (x4.toInt64))), .second, .unset, .unset, .unset, .unset, .unset]) rfl) ?_
        show own_Go p e below _ (T.setTop (mkF m 70 #[.val (.int x0), .val (.int x1), .val (.long x2), .second, .val (.long x3), .second, .val (.int x4), .val (.int x5), .val (.int n), .val (.int y), .val (.long x3), .second, .val (.long (x3 - (x4.toInt64))), .second, .unset, .unset, .unset, .unset, .unset] []))
        exact G70 n y hn hy hv _
  have G18 : ∀ (n : Int32) (hn : ¬ n < 2), own_Go p e below (own_Out s (own_Q1 h0.size) room_1.cells room_1.slots) (T.setTop (mkF m 18 #[.val (.int x0), .val (.int x1), .val (.long x2), .second, .val (.long x3), .second, .val (.int x4), .val (.int x5), .val (.int n), .unset, .unset, .unset, .unset, .unset, .unset, .unset, .unset, .unset, .unset] [])) := by
    intro n hn
    show own_Go p e below _ (T.setTop (mkF m 18 #[.val (.int x0), .val (.int x1), .val (.long x2), .second, .val (.long x3), .second, .val (.int x4), .val (.int x5), .val (.int n), .unset, .unset, .unset, .unset, .unset, .unset, .unset, .unset, .unset, .unset] []))
    refine own_go (fun _ => XS.iloadN X.here hx rfl (hb hby at_18) rfl) ?_
    show own_Go p e below _ (T.setTop (mkF m 19 #[.val (.int x0), .val (.int x1), .val (.long x2), .second, .val (.long x3), .second, .val (.int x4), .val (.int x5), .val (.int n), .unset, .unset, .unset, .unset, .unset, .unset, .unset, .unset, .unset, .unset] [(.int x1)]))
    refine own_go (X.ldcInt hx hown (mvT hZ (hw _ (List.mem_of_getElem? (i := 0) rfl))) (g := (mkF m 19 #[.val (.int x0), .val (.int x1), .val (.long x2), .second, .val (.long x3), .second, .val (.int x4), .val (.int x5), .val (.int n), .unset, .unset, .unset, .unset, .unset, .unset, .unset, .unset, .unset, .unset] [(.int x1)])) rfl (hb hby at_19)) ?_
    show own_Go p e below _ (T.setTop (mkF m 21 #[.val (.int x0), .val (.int x1), .val (.long x2), .second, .val (.long x3), .second, .val (.int x4), .val (.int x5), .val (.int n), .unset, .unset, .unset, .unset, .unset, .unset, .unset, .unset, .unset, .unset] [(.int (2147483647 : Int32)), (.int x1)]))
    refine own_go (fun _ => XS.iand X.here hx rfl (hb hby at_21) rfl) ?_
    show own_Go p e below _ (T.setTop (mkF m 22 #[.val (.int x0), .val (.int x1), .val (.long x2), .second, .val (.long x3), .second, .val (.int x4), .val (.int x5), .val (.int n), .unset, .unset, .unset, .unset, .unset, .unset, .unset, .unset, .unset, .unset] [(.int (x1 &&& (2147483647 : Int32)))]))
    refine own_go (fun _ => XS.istore X.here hx rfl (hb hby at_22) rfl (l' := #[.val (.int x0), .val (.int x1), .val (.long x2), .second, .val (.long x3), .second, .val (.int x4), .val (.int x5), .val (.int n), .val (.int (x1 &&& (2147483647 : Int32))), .unset, .unset, .unset, .unset, .unset, .unset, .unset, .unset, .unset]) rfl) ?_
    show own_Go p e below _ (T.setTop (mkF m 24 #[.val (.int x0), .val (.int x1), .val (.long x2), .second, .val (.long x3), .second, .val (.int x4), .val (.int x5), .val (.int n), .val (.int (x1 &&& (2147483647 : Int32))), .unset, .unset, .unset, .unset, .unset, .unset, .unset, .unset, .unset] []))
    refine own_go (fun _ => XS.iload X.here hx rfl (hb hby at_24) rfl) ?_
    show own_Go p e below _ (T.setTop (mkF m 26 #[.val (.int x0), .val (.int x1), .val (.long x2), .second, .val (.long x3), .second, .val (.int x4), .val (.int x5), .val (.int n), .val (.int (x1 &&& (2147483647 : Int32))), .unset, .unset, .unset, .unset, .unset, .unset, .unset, .unset, .unset] [(.int (x1 &&& (2147483647 : Int32)))]))
    refine own_go (fun _ => XS.iconst X.here hx rfl (hb hby at_26)) ?_
    show own_Go p e below _ (T.setTop (mkF m 27 #[.val (.int x0), .val (.int x1), .val (.long x2), .second, .val (.long x3), .second, .val (.int x4), .val (.int x5), .val (.int n), .val (.int (x1 &&& (2147483647 : Int32))), .unset, .unset, .unset, .unset, .unset, .unset, .unset, .unset, .unset] [(.int (1 : Int32)), (.int (x1 &&& (2147483647 : Int32)))]))
    by_cases hy : (x1 &&& (2147483647 : Int32)) < (1 : Int32)
    · skip
      refine own_go (fun _ => XS.icmpNo X.here hx rfl (hb hby at_27) rfl (XT.ii_ge_f hy)) ?_
      show own_Go p e below _ (T.setTop (mkF m 30 #[.val (.int x0), .val (.int x1), .val (.long x2), .second, .val (.long x3), .second, .val (.int x4), .val (.int x5), .val (.int n), .val (.int (x1 &&& (2147483647 : Int32))), .unset, .unset, .unset, .unset, .unset, .unset, .unset, .unset, .unset] []))
      refine own_go (fun _ => XS.iconst X.here hx rfl (hb hby at_30)) ?_
      show own_Go p e below _ (T.setTop (mkF m 31 #[.val (.int x0), .val (.int x1), .val (.long x2), .second, .val (.long x3), .second, .val (.int x4), .val (.int x5), .val (.int n), .val (.int (x1 &&& (2147483647 : Int32))), .unset, .unset, .unset, .unset, .unset, .unset, .unset, .unset, .unset] [(.int (1 : Int32))]))
      refine own_go (fun _ => XS.istore X.here hx rfl (hb hby at_31) rfl (l' := #[.val (.int x0), .val (.int x1), .val (.long x2), .second, .val (.long x3), .second, .val (.int x4), .val (.int x5), .val (.int n), .val (.int (1 : Int32)), .unset, .unset, .unset, .unset, .unset, .unset, .unset, .unset, .unset]) rfl) ?_
      show own_Go p e below _ (T.setTop (mkF m 33 #[.val (.int x0), .val (.int x1), .val (.long x2), .second, .val (.long x3), .second, .val (.int x4), .val (.int x5), .val (.int n), .val (.int (1 : Int32)), .unset, .unset, .unset, .unset, .unset, .unset, .unset, .unset, .unset] []))
      exact G33 n _ hn (by decide)
    · skip
      refine own_go (fun _ => XS.icmpYes X.here hx rfl (pc0 := 27) (pc' := 33) rfl (hb hby at_27) rfl (XT.ii_ge_t hy) (by decide) (by decide)) ?_
      show own_Go p e below _ (T.setTop (mkF m 33 #[.val (.int x0), .val (.int x1), .val (.long x2), .second, .val (.long x3), .second, .val (.int x4), .val (.int x5), .val (.int n), .val (.int (x1 &&& (2147483647 : Int32))), .unset, .unset, .unset, .unset, .unset, .unset, .unset, .unset, .unset] []))
      exact G33 n _ hn hy
  refine own_go (fun _ => XS.iloadN X.here hx rfl (hb hby at_0) rfl) ?_
  show own_Go p e below _ (T.setTop (mkF m 1 #[.val (.int x0), .val (.int x1), .val (.long x2), .second, .val (.long x3), .second, .val (.int x4), .val (.int x5), .unset, .unset, .unset, .unset, .unset, .unset, .unset, .unset, .unset, .unset, .unset] [(.int x0)]))
  refine own_go (X.ldcInt hx hown (mvT hZ (hw _ (List.mem_of_getElem? (i := 0) rfl))) (g := (mkF m 1 #[.val (.int x0), .val (.int x1), .val (.long x2), .second, .val (.long x3), .second, .val (.int x4), .val (.int x5), .unset, .unset, .unset, .unset, .unset, .unset, .unset, .unset, .unset, .unset, .unset] [(.int x0)])) rfl (hb hby at_1)) ?_
  show own_Go p e below _ (T.setTop (mkF m 3 #[.val (.int x0), .val (.int x1), .val (.long x2), .second, .val (.long x3), .second, .val (.int x4), .val (.int x5), .unset, .unset, .unset, .unset, .unset, .unset, .unset, .unset, .unset, .unset, .unset] [(.int (2147483647 : Int32)), (.int x0)]))
  refine own_go (fun _ => XS.iand X.here hx rfl (hb hby at_3) rfl) ?_
  show own_Go p e below _ (T.setTop (mkF m 4 #[.val (.int x0), .val (.int x1), .val (.long x2), .second, .val (.long x3), .second, .val (.int x4), .val (.int x5), .unset, .unset, .unset, .unset, .unset, .unset, .unset, .unset, .unset, .unset, .unset] [(.int (x0 &&& (2147483647 : Int32)))]))
  refine own_go (fun _ => XS.istore X.here hx rfl (hb hby at_4) rfl (l' := #[.val (.int x0), .val (.int x1), .val (.long x2), .second, .val (.long x3), .second, .val (.int x4), .val (.int x5), .val (.int (x0 &&& (2147483647 : Int32))), .unset, .unset, .unset, .unset, .unset, .unset, .unset, .unset, .unset, .unset]) rfl) ?_
  show own_Go p e below _ (T.setTop (mkF m 6 #[.val (.int x0), .val (.int x1), .val (.long x2), .second, .val (.long x3), .second, .val (.int x4), .val (.int x5), .val (.int (x0 &&& (2147483647 : Int32))), .unset, .unset, .unset, .unset, .unset, .unset, .unset, .unset, .unset, .unset] []))
  refine own_go (fun _ => XS.iload X.here hx rfl (hb hby at_6) rfl) ?_
  show own_Go p e below _ (T.setTop (mkF m 8 #[.val (.int x0), .val (.int x1), .val (.long x2), .second, .val (.long x3), .second, .val (.int x4), .val (.int x5), .val (.int (x0 &&& (2147483647 : Int32))), .unset, .unset, .unset, .unset, .unset, .unset, .unset, .unset, .unset, .unset] [(.int (x0 &&& (2147483647 : Int32)))]))
  refine own_go (fun _ => XS.iconst X.here hx rfl (hb hby at_8)) ?_
  show own_Go p e below _ (T.setTop (mkF m 9 #[.val (.int x0), .val (.int x1), .val (.long x2), .second, .val (.long x3), .second, .val (.int x4), .val (.int x5), .val (.int (x0 &&& (2147483647 : Int32))), .unset, .unset, .unset, .unset, .unset, .unset, .unset, .unset, .unset, .unset] [(.int (2 : Int32)), (.int (x0 &&& (2147483647 : Int32)))]))
  by_cases hn : (x0 &&& (2147483647 : Int32)) < (2 : Int32)
  · skip
    refine own_go (fun _ => XS.icmpNo X.here hx rfl (hb hby at_9) rfl (XT.ii_ge_f hn)) ?_
    show own_Go p e below _ (T.setTop (mkF m 12 #[.val (.int x0), .val (.int x1), .val (.long x2), .second, .val (.long x3), .second, .val (.int x4), .val (.int x5), .val (.int (x0 &&& (2147483647 : Int32))), .unset, .unset, .unset, .unset, .unset, .unset, .unset, .unset, .unset, .unset] []))
    refine own_go (fun _ => XS.iload X.here hx rfl (hb hby at_12) rfl) ?_
    show own_Go p e below _ (T.setTop (mkF m 14 #[.val (.int x0), .val (.int x1), .val (.long x2), .second, .val (.long x3), .second, .val (.int x4), .val (.int x5), .val (.int (x0 &&& (2147483647 : Int32))), .unset, .unset, .unset, .unset, .unset, .unset, .unset, .unset, .unset, .unset] [(.int (x0 &&& (2147483647 : Int32)))]))
    refine own_go (fun _ => XS.iconst X.here hx rfl (hb hby at_14)) ?_
    show own_Go p e below _ (T.setTop (mkF m 15 #[.val (.int x0), .val (.int x1), .val (.long x2), .second, .val (.long x3), .second, .val (.int x4), .val (.int x5), .val (.int (x0 &&& (2147483647 : Int32))), .unset, .unset, .unset, .unset, .unset, .unset, .unset, .unset, .unset, .unset] [(.int (2 : Int32)), (.int (x0 &&& (2147483647 : Int32)))]))
    refine own_go (fun _ => XS.iadd X.here hx rfl (hb hby at_15) rfl) ?_
    show own_Go p e below _ (T.setTop (mkF m 16 #[.val (.int x0), .val (.int x1), .val (.long x2), .second, .val (.long x3), .second, .val (.int x4), .val (.int x5), .val (.int (x0 &&& (2147483647 : Int32))), .unset, .unset, .unset, .unset, .unset, .unset, .unset, .unset, .unset, .unset] [(.int ((x0 &&& (2147483647 : Int32)) + (2 : Int32)))]))
    refine own_go (fun _ => XS.istore X.here hx rfl (hb hby at_16) rfl (l' := #[.val (.int x0), .val (.int x1), .val (.long x2), .second, .val (.long x3), .second, .val (.int x4), .val (.int x5), .val (.int ((x0 &&& (2147483647 : Int32)) + (2 : Int32))), .unset, .unset, .unset, .unset, .unset, .unset, .unset, .unset, .unset, .unset]) rfl) ?_
    show own_Go p e below _ (T.setTop (mkF m 18 #[.val (.int x0), .val (.int x1), .val (.long x2), .second, .val (.long x3), .second, .val (.int x4), .val (.int x5), .val (.int ((x0 &&& (2147483647 : Int32)) + (2 : Int32))), .unset, .unset, .unset, .unset, .unset, .unset, .unset, .unset, .unset, .unset] []))
    exact G18 _ (own_two (c_and x0 (2147483647 : Int32) (by decide)).1 hn)
  · skip
    refine own_go (fun _ => XS.icmpYes X.here hx rfl (pc0 := 9) (pc' := 18) rfl (hb hby at_9) rfl (XT.ii_ge_t hn) (by decide) (by decide)) ?_
    show own_Go p e below _ (T.setTop (mkF m 18 #[.val (.int x0), .val (.int x1), .val (.long x2), .second, .val (.long x3), .second, .val (.int x4), .val (.int x5), .val (.int (x0 &&& (2147483647 : Int32))), .unset, .unset, .unset, .unset, .unset, .unset, .unset, .unset, .unset, .unset] []))
    exact G18 _ hn
set_option maxRecDepth 65536 in
set_option maxHeartbeats 40000000 in
theorem comes_1 {Post : Tables → Env → Array Value → State → Outcome → State → Prop} (hpost : ∀ tb e args s v u, (limb_1_1.after args s (.returned v) u = true ∧ limb_1_2.after args s (.returned v) u = true ∧ True) → FrameEnd s (.returned v) u (Jvm.fieldLocs frame_1_writes args s ++ Jvm.arrayLocs frame_1_arrays args s ++ Jvm.staticLocs frame_1_statics s) 16 128 → Post tb e args s (.returned v) u) :
    ArmFor flags0 classFile x code maxLocals ret World_1 tables_1 room_1 Calls_1 rest_1 Pre_1 Post := by
  intro l hfl _ _ p e ha hc hk s m args below hf hA hF happ hP
  obtain ⟨hcalls, hrest, hpre⟩ := hP
  obtain ⟨-, -, -, hnamed, -, -, -, hat⟩ := (Spec.applies_iff hf).mp happ
  obtain ⟨hg, hn⟩ := and_e (Cond.before_iff.mp (show (Jvm.Cond.and given_1 narrow_1).before args s = true from hpre))
  obtain ⟨gc, gr0⟩ := and_e hg
  obtain ⟨g0, gr1⟩ := and_e gr0
  obtain ⟨g1, gr2⟩ := and_e gr1
  obtain ⟨g2, gr3⟩ := and_e gr2
  obtain ⟨g3, gr4⟩ := and_e gr3
  obtain ⟨g4, gr5⟩ := and_e gr4
  obtain ⟨w0, w1, w2, w3, w4, w5, rfl⟩ : ∃ w0 w1 w2 w3 w4 w5 : Value, args = #[w0, w1, w2, w3, w4, w5] := by
    have hs : args.size = 6 := by simpa [Cond.value, given_1] using gc
    obtain ⟨L⟩ := args
    match L, hs with
    | [w0, w1, w2, w3, w4, w5], _ => exact ⟨w0, w1, w2, w3, w4, w5, rfl⟩
  have hw := fun d (hd : d ∈ tables_1) => atoms_spec (ws := Jvm.Cond.code x code maxLocals ret :: tables_1) hat d (List.mem_cons_of_mem _ hd)
  have hfit : Fit s := fun {y c} hc i hi => by
    obtain ⟨ha, rfl⟩ := Array.getElem?_eq_some_iff.mp hc
    have q := List.all_eq_true.mp ((Array.all_eq_true_iff_forall_mem.mp hF) _ (Array.getElem_mem ha)) i (List.mem_range.mpr hi)
    simpa [Array.getElem?_eq_getElem hi] using q
  obtain ⟨i0, ei0⟩ := is_v g0
  obtain rfl : w0 = (.int i0) := Option.some.inj ei0
  obtain ⟨i1, ei1⟩ := is_v g1
  obtain rfl : w1 = (.int i1) := Option.some.inj ei1
  obtain ⟨i2, ei2⟩ := isL_v g2
  obtain rfl : w2 = (.long i2) := Option.some.inj ei2
  obtain ⟨i3, ei3⟩ := isL_v g3
  obtain rfl : w3 = (.long i3) := Option.some.inj ei3
  obtain ⟨i4, ei4⟩ := is_v g4
  obtain rfl : w4 = (.int i4) := Option.some.inj ei4
  obtain ⟨i5, ei5⟩ := is_v gr5
  obtain rfl : w5 = (.int i5) := Option.some.inj ei5
  obtain ⟨n, o, h1, h2, h3, _, L, rfl, ⟨rfl, N⟩, hq⟩ := own_main_con l s _ hw i0 i1 i2 i3 i4 i5  s.heap tables_1 p e ha hc hk s m _ below hf ((Spec.applies_iff_loose hf).mp happ).1 ⟨rfl, State.Warmed39.refl s, rfl⟩ trivial
  refine ⟨n, _, h1, h2, h3, hpost _ _ _ _ _ _ ⟨Cond.after_iff.mpr rfl, Cond.after_iff.mpr (eq_i res_at (Term.int_eval (1)) rfl), trivial⟩ ⟨hq.1, hq.2.1, (hq.2.2.sift fun y hy => Or.inr (N y hy)).mono (by decide) (by decide)⟩⟩
theorem main_1_1 : Claimed_1_1 := comes_1 fun _ _ _ _ _ _ h hF => ⟨h.1, hF⟩
theorem main_1_2 : Claimed_1_2 := comes_1 fun _ _ _ _ _ _ h hF => ⟨h.2.1, hF⟩
end Jvm.Pilot.@@N@@
namespace Jvm.Pilot.@@N@@
open Jvm Jvm.ClassFile Sem Op Lib Jvm.Free Jvm.Stand Jvm.Pilot.@@N@@.Jvm.D
/-! MADE BY PROGRAM (witnessworld.py) out of the Statement's table words and the real class files: 9 classes; the members and pool entries that the words name. The judged class is class 1, her method 1. -/
namespace start1
open Jvm.ClassFile
def u (s : String) : CpInfo := .utf8 (stringToUtf16 s)
/-- a pool by its gaps: so many unusable entries, then the entry; so many at the end -/
def gap : Nat → List CpInfo → List CpInfo
  | 0, r => r
  | n + 1, r => .unusable :: gap n r
def poolList (es : List (Nat × CpInfo)) (last : Nat) : List CpInfo := es.foldr (fun e r => gap e.1 (e.2 :: r)) (gap last [])
def pool (es : List (Nat × CpInfo)) (last : Nat) : Array CpInfo := ⟨poolList es last⟩
def fileOf (pool : Array CpInfo) (this : Nat) (attrs : Array Attribute := #[]) (ms : Array MethodInfo := #[]) (fl : Nat := 33) (sup : Nat := 0) (ifs : Array Nat := #[]) (fds : Array FieldInfo := #[]) : ClassFile where
  minorVersion := 0
  majorVersion := 65
  constantPool := pool
  accessFlags := fl
  thisClass := this
  superClass := sup
  interfaces := ifs
  fields := fds
  methods := ms
  attributes := attrs
def plain (name : String) (sup : Option ClassId) : Class where
  name := name
  kind := .ordinary
  loader := none
  accessFlags := 33
  super := sup
  interfaces := #[]
  cf := none
  fields := #[]
  methods := #[]
  instanceTypes := #[]
  staticTypes := #[]
  resolved := #[]
  callSites := []
  init := .initialized
  statics := none
  mirror := none

def pool0 : Array CpInfo := pool [(5, u "<init>"), (0, u "()V"), (1, .class_ 10), (1, u "java/lang/Object")] 113

def k0c0 : Code := { maxStack := 0, maxLocals := 1, code := object_method_1_code, exceptionTable := #[], attributes := #[] }
def k0m0 : Method := { name := "<init>", desc := "()V", sig := { parameters := [], returnType := none }, accessFlags := 1, code := some k0c0 }
/-- java/lang/Object -/
def k0 : Class := { plain "java/lang/Object" none with
  accessFlags := 33
  interfaces := #[]
  cf := some (fileOf pool0 8 #[] #[{ accessFlags := 1, nameIndex := 5, descriptorIndex := 6, attributes := #[] }] 33 0 #[] #[])
  fields := #[]
  methods := #[k0m0]
  instanceTypes := #[]
  staticTypes := #[]
  resolved := Array.replicate 124 none
  statics := none }

def pool1 : Array CpInfo := pool [(2, .class_ 4), (1, u "java/lang/Object"), (0, u "<init>"), (0, u "()V"), (0, .integer 2147483647), (2, .long 9223372036854775808), (1, .class_ 13), (0, u "com/example/meter_for_logs/meterforlogs/SampleWindow"), (0, .methodref 12 15), (0, .nameAndType 5 16), (0, u "(II)V"), (0, .methodref 12 18), (0, .nameAndType 19 20), (0, u "holds"), (0, u "(JJ)Z"), (0, .class_ 22), (0, u "com/example/meter_for_logs/meterforlogs/SampleWindowHoldsPinLaw"), (2, u "law"), (0, u "(IIJJII)Z")] 3

def k1m0 : Method := { name := "<init>", desc := "()V", sig := { parameters := [], returnType := none }, accessFlags := 1, code := none }
def k1c1 : Code := { maxStack := 6, maxLocals := 19, code := code, exceptionTable := #[], attributes := #[] }
def k1m1 : Method := { name := "law", desc := "(IIJJII)Z", sig := { parameters := [.int, .int, .long, .long, .int, .int], returnType := some .boolean }, accessFlags := 9, code := some k1c1 }
/-- com/example/meter_for_logs/meterforlogs/SampleWindowHoldsPinLaw -/
def k1 : Class := { plain "com/example/meter_for_logs/meterforlogs/SampleWindowHoldsPinLaw" (some 0) with
  accessFlags := 49
  interfaces := #[]
  cf := some (fileOf pool1 21 #[] #[{ accessFlags := 1, nameIndex := 5, descriptorIndex := 6, attributes := #[] }, { accessFlags := 9, nameIndex := 25, descriptorIndex := 26, attributes := #[] }] 49 2 #[] #[])
  fields := #[]
  methods := #[k1m0, k1m1]
  instanceTypes := #[]
  staticTypes := #[]
  resolved := Array.replicate 30 none
  statics := none }

def pool2 : Array CpInfo := pool [(1, .methodref 2 3), (0, .class_ 4), (0, .nameAndType 5 6), (0, u "java/lang/Object"), (0, u "<init>"), (0, u "()V"), (0, .class_ 8), (0, u "com/example/meter_for_logs/meterforlogs/SampleWindow"), (10, .fieldref 7 20), (0, .nameAndType 21 22), (0, u "samples"), (0, u "I"), (0, .fieldref 7 24), (0, .nameAndType 25 22), (0, u "sampleSeconds"), (0, .long 1000), (1, .fieldref 7 29), (0, .nameAndType 30 31), (0, u "sampleMillis"), (0, u "J"), (0, .fieldref 7 33), (0, .nameAndType 34 35), (0, u "wholeSampleSeconds"), (0, u "D"), (0, .methodref 7 37), (0, .nameAndType 38 39), (0, u "secondsInto"), (0, u "(J)D"), (0, .fieldref 7 41), (0, .nameAndType 42 35), (0, u "endSeconds"), (23, .double 4652007308841189376), (5, u "MIN_SAMPLES"), (2, u "MIN_SAMPLE_SECONDS"), (1, u "MILLIS_PER_SECOND"), (0, u "(II)V"), (9, u "holds"), (0, u "(JJ)Z")] 22

def k2c0 : Code := { maxStack := 6, maxLocals := 3, code := prog_69_method_1_code, exceptionTable := #[], attributes := #[] }
def k2m0 : Method := { name := "<init>", desc := "(II)V", sig := { parameters := [.int, .int], returnType := none }, accessFlags := 0, code := some k2c0 }
def k2c1 : Code := { maxStack := 6, maxLocals := 5, code := prog_69_method_9_code, exceptionTable := #[], attributes := #[] }
def k2m1 : Method := { name := "holds", desc := "(JJ)Z", sig := { parameters := [.long, .long], returnType := some .boolean }, accessFlags := 0, code := some k2c1 }
def k2c2 : Code := { maxStack := 6, maxLocals := 3, code := prog_69_method_15_code, exceptionTable := #[], attributes := #[] }
def k2m2 : Method := { name := "secondsInto", desc := "(J)D", sig := { parameters := [.long], returnType := some .double }, accessFlags := 2, code := some k2c2 }
/-- com/example/meter_for_logs/meterforlogs/SampleWindow -/
def k2 : Class := { plain "com/example/meter_for_logs/meterforlogs/SampleWindow" (some 0) with
  accessFlags := 32
  interfaces := #[]
  cf := some (fileOf pool2 7 #[] #[{ accessFlags := 0, nameIndex := 5, descriptorIndex := 78, attributes := #[] }, { accessFlags := 0, nameIndex := 88, descriptorIndex := 89, attributes := #[] }, { accessFlags := 2, nameIndex := 38, descriptorIndex := 39, attributes := #[] }] 32 2 #[] #[{ accessFlags := 24, nameIndex := 72, descriptorIndex := 22, attributes := #[] }, { accessFlags := 24, nameIndex := 75, descriptorIndex := 22, attributes := #[] }, { accessFlags := 26, nameIndex := 77, descriptorIndex := 31, attributes := #[] }, { accessFlags := 18, nameIndex := 21, descriptorIndex := 22, attributes := #[] }, { accessFlags := 18, nameIndex := 25, descriptorIndex := 22, attributes := #[] }, { accessFlags := 18, nameIndex := 30, descriptorIndex := 31, attributes := #[] }, { accessFlags := 18, nameIndex := 34, descriptorIndex := 35, attributes := #[] }, { accessFlags := 18, nameIndex := 42, descriptorIndex := 35, attributes := #[] }])
  fields := #[{ name := "MIN_SAMPLES", type := .int, accessFlags := 24, slot := 0, constantValue := 0 }, { name := "MIN_SAMPLE_SECONDS", type := .int, accessFlags := 24, slot := 1, constantValue := 0 }, { name := "MILLIS_PER_SECOND", type := .long, accessFlags := 26, slot := 2, constantValue := 0 }, { name := "samples", type := .int, accessFlags := 18, slot := 0, constantValue := 0 }, { name := "sampleSeconds", type := .int, accessFlags := 18, slot := 1, constantValue := 0 }, { name := "sampleMillis", type := .long, accessFlags := 18, slot := 2, constantValue := 0 }, { name := "wholeSampleSeconds", type := .double, accessFlags := 18, slot := 3, constantValue := 0 }, { name := "endSeconds", type := .double, accessFlags := 18, slot := 4, constantValue := 0 }]
  methods := #[k2m0, k2m1, k2m2]
  instanceTypes := #[.int, .int, .long, .double, .double]
  staticTypes := #[.int, .int, .long]
  resolved := Array.replicate 112 none
  statics := none }

def pool3 : Array CpInfo := pool [(1, u "java/lang/Cloneable"), (0, .class_ 1), (0, u "java/lang/Object"), (0, .class_ 3)] 3

/-- java/lang/Cloneable -/
def k3 : Class := { plain "java/lang/Cloneable" (some 0) with
  accessFlags := 1537
  interfaces := #[]
  cf := some (fileOf pool3 2 #[] #[] 1537 4 #[] #[])
  fields := #[]
  methods := #[]
  instanceTypes := #[]
  staticTypes := #[]
  resolved := Array.replicate 8 none
  statics := none }

def pool4 : Array CpInfo := pool [(1, u "java/io/Serializable"), (0, .class_ 1), (0, u "java/lang/Object"), (0, .class_ 3)] 3

/-- java/io/Serializable -/
def k4 : Class := { plain "java/io/Serializable" (some 0) with
  accessFlags := 1537
  interfaces := #[]
  cf := some (fileOf pool4 2 #[] #[] 1537 4 #[] #[])
  fields := #[]
  methods := #[]
  instanceTypes := #[]
  staticTypes := #[]
  resolved := Array.replicate 8 none
  statics := none }

/-- the primitive byte -/
def k5 : Class := { plain "byte" none with kind := .primitive 'B', accessFlags := 0x411 }
/-- [B -/
def k6 : Class := { plain "[B" (some 0) with kind := .array 5 .byte, interfaces := #[3, 4], accessFlags := 1041 }

/-- the primitive int -/
def k7 : Class := { plain "int" none with kind := .primitive 'I', accessFlags := 0x411 }
/-- [I -/
def k8 : Class := { plain "[I" (some 0) with kind := .array 7 .int, interfaces := #[3, 4], accessFlags := 1041 }

def heap : Heap := #[]
def classes : Array Class := #[k0, k1, k2, k3, k4, k5, k6, k7, k8]
def interned : List (Array UInt16 × Addr) := []
def slotsUsed : Nat := 0
def theMethod : MethodId := ⟨1, 1⟩
def args0 : Array Value := #[.int 5, .int 7, .long 3, .long 9, .int 1, .int 1]
def aboutOver (below : List Frame) : State where
  vm := { classes := classes, interned := interned.toArray }
  heap := heap
  slotsUsed := slotsUsed
  threads := #[{ frames := .invoking theMethod args0 :: below }]
def below0 : List Frame := [.native { method := ⟨0, 0⟩, args := #[] }]
def about1 : State := aboutOver below0
def p0 : Program := .bare "" "" ""
def e0 : Env := launch0.env 0 0 0
theorem w_frames : about1.frames = Frame.invoking theMethod args0 :: below0 := rfl
set_option maxRecDepth 65536 in
theorem w_args : argsFit about1.vm theMethod args0 = true := by decide +kernel
set_option maxRecDepth 65536 in
theorem w_heap : heapFits about1 = true := by decide +kernel
set_option maxRecDepth 65536 in
theorem w_runnable : about1.curStatus? = some .runnable := by decide +kernel
set_option maxRecDepth 65536 in
theorem w_alone : about1.alone = true := by decide +kernel
set_option maxRecDepth 65536 in
theorem w_named : about1.methodNamed? x = some theMethod := by decide +kernel
set_option maxRecDepth 65536 in
theorem w_hears : about1.hears theMethod below0 = true := by decide +kernel
set_option maxRecDepth 65536 in
theorem w_ripe : about1.ripe theMethod args0 below0 = true := by decide +kernel
theorem w_running : about1.status = .running := rfl
set_option maxRecDepth 65536 in
theorem w_room : about1.hasRoom e0.platform room_1 = true :=
  launch0.hasRoom_least _ room_1 (by decide +kernel) (by decide +kernel) (by decide +kernel) (by decide +kernel) (by decide +kernel) (by decide +kernel)
theorem allAtoms_all (ts : List Jvm.Cond) (a : Array Jvm.Value) (st : Jvm.State) : (allAtoms ts).before a st = ts.all (fun c => c.before a st) := by
  induction ts with
  | nil => rfl
  | cons c t ih =>
    show (Jvm.Cond.and c (allAtoms t)).before a st = _
    rw [Jvm.Cond.before_and, ih, List.all_cons]
def words1 : List Jvm.Cond := Jvm.Cond.code x code maxLocals ret :: tables_1
/-- a 'code' word, met by the world's own term for the bytes: nothing is compared byte by byte -/
theorem code_word {y : MethodName} {bytes : ByteArray} {mx : Nat} {rt : Option FieldType} {a : Array Value} {s : State} {m : MethodId} {meth : Method} {c : Code} (h1 : s.methodNamed? y = some m) (h2 : s.vm.method? m = some meth) (h3 : meth.code = some c) (h4 : c.code = bytes)
    (h5 : (c.maxLocals == mx && c.exceptionTable.isEmpty && decide (c.maxStack ≤ mostOperands) && decide (meth.sig.returnType = rt) && !meth.locks && decide (parseMethodDescriptor y.desc = some meth.sig)) = true) : (Jvm.Cond.code y bytes mx rt).before a s = true := by
  simp only [Bool.and_eq_true, beq_iff_eq, Bool.not_eq_true', decide_eq_true_eq] at h5
  obtain ⟨⟨⟨⟨⟨g1, g2⟩, g3⟩, g4⟩, g5⟩, g6⟩ := h5
  simp [Cond.before, Cond.holds, Cond.value, h1, h2, h3, h4, g1, g2, g3, g4, g5, g6]
def isCode : Jvm.Cond → Bool
  | .code _ _ _ _ => true
  | _ => false
theorem all_split {L : List Jvm.Cond} {P : Jvm.Cond → Bool} (h1 : L.all (fun c => isCode c || P c) = true) (h2 : ∀ c ∈ L.filter isCode, P c = true) : L.all P = true := by
  refine List.all_eq_true.mpr fun c hc => ?_
  have h := List.all_eq_true.mp h1 c hc
  rcases Bool.eq_false_or_eq_true (isCode c) with hi | hi
  · exact h2 c (List.mem_filter.mpr ⟨hc, hi⟩)
  · simpa [hi] using h
set_option maxRecDepth 65536 in
theorem w_c0 : (Jvm.Cond.code x code maxLocals ret).before args0 about1 = true := code_word (m := ⟨1, 1⟩) (meth := k1m1) (c := k1c1) (by decide +kernel) rfl rfl rfl (by decide +kernel)
set_option maxRecDepth 65536 in
theorem w_c1 : (Jvm.Cond.code ({ cls := "com/example/meter_for_logs/meterforlogs/SampleWindow", name := "<init>", desc := "(II)V" } : Jvm.MethodName) prog_69_method_1_code (3 : Nat) (Option.none : Option Jvm.ClassFile.FieldType)).before args0 about1 = true := code_word (m := ⟨2, 0⟩) (meth := k2m0) (c := k2c0) (by decide +kernel) rfl rfl rfl (by decide +kernel)
set_option maxRecDepth 65536 in
theorem w_c2 : (Jvm.Cond.code ({ cls := "java/lang/Object", name := "<init>", desc := "()V" } : Jvm.MethodName) object_method_1_code (1 : Nat) (Option.none : Option Jvm.ClassFile.FieldType)).before args0 about1 = true := code_word (m := ⟨0, 0⟩) (meth := k0m0) (c := k0c0) (by decide +kernel) rfl rfl rfl (by decide +kernel)
set_option maxRecDepth 65536 in
theorem w_c3 : (Jvm.Cond.code ({ cls := "com/example/meter_for_logs/meterforlogs/SampleWindow", name := "secondsInto", desc := "(J)D" } : Jvm.MethodName) prog_69_method_15_code (3 : Nat) (Option.some Jvm.ClassFile.FieldType.double)).before args0 about1 = true := code_word (m := ⟨2, 2⟩) (meth := k2m2) (c := k2c2) (by decide +kernel) rfl rfl rfl (by decide +kernel)
set_option maxRecDepth 65536 in
theorem w_c4 : (Jvm.Cond.code ({ cls := "com/example/meter_for_logs/meterforlogs/SampleWindow", name := "holds", desc := "(JJ)Z" } : Jvm.MethodName) prog_69_method_9_code (5 : Nat) (Option.some Jvm.ClassFile.FieldType.boolean)).before args0 about1 = true := code_word (m := ⟨2, 1⟩) (meth := k2m1) (c := k2c1) (by decide +kernel) rfl rfl rfl (by decide +kernel)
def codes1 : List Jvm.Cond := [Jvm.Cond.code x code maxLocals ret, Jvm.Cond.code ({ cls := "com/example/meter_for_logs/meterforlogs/SampleWindow", name := "<init>", desc := "(II)V" } : Jvm.MethodName) prog_69_method_1_code (3 : Nat) (Option.none : Option Jvm.ClassFile.FieldType), Jvm.Cond.code ({ cls := "java/lang/Object", name := "<init>", desc := "()V" } : Jvm.MethodName) object_method_1_code (1 : Nat) (Option.none : Option Jvm.ClassFile.FieldType), Jvm.Cond.code ({ cls := "com/example/meter_for_logs/meterforlogs/SampleWindow", name := "secondsInto", desc := "(J)D" } : Jvm.MethodName) prog_69_method_15_code (3 : Nat) (Option.some Jvm.ClassFile.FieldType.double), Jvm.Cond.code ({ cls := "com/example/meter_for_logs/meterforlogs/SampleWindow", name := "holds", desc := "(JJ)Z" } : Jvm.MethodName) prog_69_method_9_code (5 : Nat) (Option.some Jvm.ClassFile.FieldType.boolean)]
set_option maxRecDepth 65536 in
theorem codes_eq : words1.filter isCode = codes1 := rfl
theorem w_codes : ∀ c ∈ words1.filter isCode, c.before args0 about1 = true := by
  rw [codes_eq]
  intro c hc
  simp only [codes1, List.mem_cons, List.not_mem_nil, or_false] at hc
  rcases hc with rfl | rfl | rfl | rfl | rfl
  · exact w_c0
  · exact w_c1
  · exact w_c2
  · exact w_c3
  · exact w_c4
set_option maxRecDepth 65536 in
theorem w_t1 : (words1.take 24).all (fun c => isCode c || c.before args0 about1) = true := by decide +kernel
set_option maxRecDepth 65536 in
theorem w_t2 : (words1.drop 24).all (fun c => isCode c || c.before args0 about1) = true := by decide +kernel
theorem w_tables : (allAtoms (Jvm.Cond.code x code maxLocals ret :: tables_1)).before args0 about1 = true := by
  rw [allAtoms_all]
  show words1.all (fun c => c.before args0 about1) = true
  refine all_split ?_ w_codes
  rw [← List.take_append_drop 24 words1, List.all_append, w_t1, w_t2]
  rfl
set_option maxRecDepth 65536 in
theorem w_case : (Jvm.Cond.and given_1 narrow_1).before args0 about1 = true := by decide +kernel
theorem w_applies : (headSpec (Jvm.Cond.code x code maxLocals ret :: tables_1) room_1).applies x e0.platform about1 = true :=
  (Spec.applies_iff w_frames).mpr ⟨w_running, w_runnable, w_alone, w_named, w_hears, w_ripe, w_room, w_tables⟩
theorem atStart : AtStart classFile x code maxLocals ret World_1 tables_1 room_1 Calls_1 rest_1 Pre_1 launch0 p0 e0 about1 theMethod args0 below0 :=
  ⟨lists_1, trivial, launch0.admits_env _ _ _, launch0.least_env, fairChoices_fair.cas, fairChoices_fair.clock, w_frames, w_args, w_heap, w_applies, trivial, trivial, w_case⟩
end start1
theorem witness_1 : WitnessClaimed_1 := ⟨start1.p0, start1.e0, start1.about1, start1.theMethod, start1.args0, start1.below0, start1.atStart⟩
end Jvm.Pilot.@@N@@
