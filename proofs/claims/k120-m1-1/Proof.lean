import JvmDerived
import JvmDerived.Pilot.@@N@@Statement
import JvmDerived.Pilot.@@N@@Code
set_option linter.unusedVariables false
set_option linter.unusedSimpArgs false
namespace Jvm.Pilot.@@N@@
open Jvm Jvm.ClassFile Sem Op Lib Jvm.Free Jvm.Stand Jvm.LawKit Jvm.RoadKit Bundle Jvm.Pilot.@@N@@.Jvm.D
section OwnKit
variable {p : Program} {l : Launch} {e : Env} {R : Room} {s : State} {m : MethodId} {args : Array Value} {below : List Frame} {meth : Method} {c : Code} {T : State} {locs : List Loc} {cells slots : Nat} {Z : State} {a0 : Array Value} {h h' h0 : Heap}
/-- the rest of the body's run, from A on: it ends, and E holds there -/
def own_Go (p : Program) (e : Env) (below : List Frame) (E : Outcome → State → Prop) (A : State) : Prop :=
  ∃ s₂ o, Steps p.tables e below A s₂ ∧ s₂.status = .running ∧ Ended s₂ below o ∧ E o s₂
theorem own_go {E : Outcome → State → Prop} {A B : State} (k : ∀ t, Steps p.tables e below A t → Steps p.tables e below B t) (g : own_Go p e below E A) : own_Go p e below E B := by
  obtain ⟨s₂, o, h1, h2⟩ := g
  exact ⟨s₂, o, k _ h1, h2⟩
theorem own_goT {E : Outcome → State → Prop} {A B : State} (k : Steps p.tables e below B A) (g : own_Go p e below E A) : own_Go p e below E B := own_go (fun _ q => k.trans q) g
/-- what a body leaves -/
def own_Out (s : State) (Q : Option Value → Heap → List Loc → Prop) (C S : Nat) (o : Outcome) (U : State) : Prop :=
  ∃ v L, o = .returned v ∧ Q v U.heap L ∧ FrameEnd s o U L C S
/-- a body's contract: called with as' over the heap h0 it returns, and Q holds of what it returns, of the heap that it leaves and of the places that it wrote -/
def own_Con (l : Launch) (Z : State) (y : MethodName) (bytes : ByteArray) (maxL : Nat) (ret : Option FieldType) (rm : Room) (as' : Array Value) (h0 : Heap) (Q : Option Value → Heap → List Loc → Prop) (ws : List Jvm.Cond) : Prop :=
  MetFree l y (head1 (Jvm.Cond.code y bytes maxL ret :: ws) rm) (fun a U => a = as' ∧ Z.Warmed39 U.vm ∧ U.heap = h0) (fun _ _ _ _ _ => True) (fun _ U o U' => ∃ v L, o = .returned v ∧ Q v U'.heap L ∧ FrameEnd U o U' L rm.cells rm.slots)
theorem own_con {y : MethodName} {bytes : ByteArray} {maxL : Nat} {ret : Option FieldType} {rm : Room} {as' : Array Value} {Q : Option Value → Heap → List Loc → Prop} {ws : List Jvm.Cond} {F : MethodId → JFrame} (hpn : plainFor y = true) (hef : ∀ m, entryFrame m as' maxL = F m)
    (H : ∀ (p : Program) (e : Env) (s : State) (m : MethodId) (below : List Frame) (meth : Method) (c : Code) (T : State), Stand p l e rm s m as' below meth c T [] 0 0 → p.tables.exec = Jvm.exec → c.code = bytes → c.maxLocals = maxL → Z.Warmed39 s.vm → s.vm.findClass y.cls = some m.cls → meth.name = y.name →
      meth.sig.returnType = ret → meth.locks = false → T.heap = h0 → own_Go p e below (own_Out s Q rm.cells rm.slots) (T.setTop (F m))) :
    own_Con l Z y bytes maxL ret rm as' h0 Q ws := by
  refine MetFree.of_bodySF hpn hisR ?_
  intro p e s m args below meth c s₁ Bd hml0 hP hK
  obtain ⟨rfl, hZ, hh⟩ := hP
  have k := H p e s m below meth c s₁ (Stand.of_body Bd) Bd.exec Bd.bytes hml0 hZ (findClass_of_methodNamed Bd.named) (name_of_methodNamed Bd.named Bd.method).1 Bd.returns Bd.notSynchronized (by rw [← hh, Bd.state]; rfl)
  rw [← hef m] at k
  exact k
theorem own_Con.mono {y : MethodName} {bytes : ByteArray} {maxL : Nat} {ret : Option FieldType} {rm : Room} {as' : Array Value} {Q Q' : Option Value → Heap → List Loc → Prop} {ws : List Jvm.Cond} (H : own_Con l Z y bytes maxL ret rm as' h0 Q ws) (k : ∀ v h L, Q v h L → Q' v h L) : own_Con l Z y bytes maxL ret rm as' h0 Q' ws := by
  intro p e ha hc hk s m args below hf happ hP hK
  obtain ⟨n, o, g1, g2, g3, v, L, g4, g5, g6⟩ := H p e ha hc hk s m args below hf happ hP hK
  exact ⟨n, o, g1, g2, g3, v, L, g4, k _ _ _ g5, g6⟩
/-! leaving -/
theorem own_iret (X : Stand p l e R s m args below meth c T locs cells slots) (hx : p.tables.exec = Jvm.exec) (hlk : meth.locks = false) {t : FieldType} (hret : meth.sig.returnType = some t) (hti : t = .int ∨ t = .boolean ∨ t = .byte ∨ t = .char ∨ t = .short) {pc : Nat} {Ls : Array Slot} {z : Int32} (hn : narrow t (.int z) = .int z)
    (hd : decode c.code pc = .ok (.ireturn, 1)) {Q : Option Value → Heap → List Loc → Prop} {C S : Nat} (hC : cells ≤ C) (hS : slots ≤ S) (hq : Q (some (.int z)) T.heap locs) : own_Go p e below (own_Out s Q C S) (T.setTop (mkF m pc Ls [.int z])) := by
  obtain ⟨fs, hr, hrun, hended, hW, hsame⟩ := X.leave (v := some (.int z)) (fun h => by rw [hret] at h; cases h)
  exact ⟨_, _, X.ireturnOut hx hret hn hti hd hr, hrun, hended, _, _, rfl, hq, ⟨_, rfl⟩, hW, hsame.mono hC hS⟩
theorem own_lret (X : Stand p l e R s m args below meth c T locs cells slots) (hx : p.tables.exec = Jvm.exec) (hlk : meth.locks = false) (hret : meth.sig.returnType = some .long) {pc : Nat} {Ls : Array Slot} {z : Int64}
    (hd : decode c.code pc = .ok (.lreturn, 1)) {Q : Option Value → Heap → List Loc → Prop} {C S : Nat} (hC : cells ≤ C) (hS : slots ≤ S) (hq : Q (some (.long z)) T.heap locs) : own_Go p e below (own_Out s Q C S) (T.setTop (mkF m pc Ls [.long z])) := by
  obtain ⟨fs, hr, hrun, hended, hW, hsame⟩ := X.leave (v := some (.long z)) (fun h => by rw [hret] at h; cases h)
  exact ⟨_, _, X.lreturnOut hx hret hd hr, hrun, hended, _, _, rfl, hq, ⟨_, rfl⟩, hW, hsame.mono hC hS⟩
theorem own_aret (X : Stand p l e R s m args below meth c T locs cells slots) (hx : p.tables.exec = Jvm.exec) (hlk : meth.locks = false) {t : FieldType} (hret : meth.sig.returnType = some t) (ht : t.isReference = true) {pc : Nat} {Ls : Array Slot} {w : Value} (hw : w.isRef = true)
    (hd : decode c.code pc = .ok (.areturn, 1)) {Q : Option Value → Heap → List Loc → Prop} {C S : Nat} (hC : cells ≤ C) (hS : slots ≤ S) (hq : Q (some w) T.heap locs) : own_Go p e below (own_Out s Q C S) (T.setTop (mkF m pc Ls [w])) := by
  obtain ⟨fs, hr, hrun, hended, hW, hsame⟩ := X.leave (v := some w) (fun h => by rw [hret] at h; cases h)
  exact ⟨_, _, X.areturnOut hx hw hret ht hd hr, hrun, hended, _, _, rfl, hq, ⟨_, rfl⟩, hW, hsame.mono hC hS⟩
theorem own_vret (X : Stand p l e R s m args below meth c T locs cells slots) (hx : p.tables.exec = Jvm.exec) (hlk : meth.locks = false) (hret : meth.sig.returnType = none) {pc : Nat} {Ls : Array Slot}
    (hd : decode c.code pc = .ok (.return_, 1)) {Q : Option Value → Heap → List Loc → Prop} {C S : Nat} (hC : cells ≤ C) (hS : slots ≤ S) (hq : Q none T.heap locs) : own_Go p e below (own_Out s Q C S) (T.setTop (mkF m pc Ls [])) := by
  obtain ⟨fs, hr, hrun, hended, hW, hsame⟩ := X.leave (v := none) (fun _ => rfl)
  exact ⟨_, _, X.returnOut hx hret hd hr, hrun, hended, _, _, rfl, hq, ⟨_, rfl⟩, hW, hsame.mono hC hS⟩
/-! a body that leaves the heap alone -/
def own_PQ (h0 : Heap) (w : Value) (v : Option Value) (h : Heap) (L : List Loc) : Prop := v = some w ∧ h = h0 ∧ L = []
theorem own_iteI {C : Prop} [Decidable C] {a b : Int32} {k n : Nat} {A : State} (h1 : C → own_Go p e below (own_Out s (own_PQ h0 (.int a)) k n) A) (h2 : ¬ C → own_Go p e below (own_Out s (own_PQ h0 (.int b)) k n) A) : own_Go p e below (own_Out s (own_PQ h0 (.int (if C then a else b))) k n) A := by
  by_cases q : C
  · rw [if_pos q]; exact h1 q
  · rw [if_neg q]; exact h2 q
theorem own_iteL {C : Prop} [Decidable C] {a b : Int64} {k n : Nat} {A : State} (h1 : C → own_Go p e below (own_Out s (own_PQ h0 (.long a)) k n) A) (h2 : ¬ C → own_Go p e below (own_Out s (own_PQ h0 (.long b)) k n) A) : own_Go p e below (own_Out s (own_PQ h0 (.long (if C then a else b))) k n) A := by
  by_cases q : C
  · rw [if_pos q]; exact h1 q
  · rw [if_neg q]; exact h2 q
/-! calls -/
theorem own_callS (X : Stand p l e R s m args below meth c T locs cells slots) (hx : p.tables.exec = Jvm.exec) (hZ : Z.Warmed39 s.vm) {own : String} (hown : s.vm.findClass own = some m.cls) {index : Nat} {y : MethodName} {bytes : ByteArray} {maxL : Nat} {ret : Option FieldType} {rm : Room} {argsL rest : List Value} {Q : Option Value → Heap → List Loc → Prop}
    (hM : own_Con l Z y bytes maxL ret rm argsL.toArray h Q []) (eT : T.heap = h) (wl : (Jvm.Cond.methodLink own index y).before a0 Z = true) (wst : (Jvm.Cond.static y).before a0 Z = true) (wz : (Jvm.Cond.initialized y.cls).before a0 Z = true) (wc : (Jvm.Cond.code y bytes maxL ret).before a0 Z = true) (hy : y.cls ≠ "java/lang/invoke/MethodHandle" ∧ y.cls ≠ "java/lang/invoke/VarHandle")
    {sig : MethodDescriptor} (hpd : parseMethodDescriptor y.desc = some sig) (hlen : argsL.length = sig.parameters.length) {g : JFrame} (hg : g.method = m) (hsize : g.locals.size = c.maxLocals) (hstack : g.stack = argsL.reverse ++ rest) (W : Nat) (hW : 2 * g.monitorRoom + (rest.map fun v => v.category).sum ≤ W) (hdg : decode c.code g.pc = .ok (.invokestatic index, 3))
    (hf : rm.frames + 1 ≤ R.frames) (hl : W + (maxL + 11) + rm.locals ≤ R.locals) (hcs : cells + rm.cells ≤ R.cells) (hss : slots + rm.slots ≤ R.slots) :
    ∃ (v : Option Value) (T' : State) (L : List Loc), Stand p l e R s m args below meth c T' (locs ++ L) (cells + rm.cells) (slots + rm.slots) ∧ Q v T'.heap L ∧ ∀ t, Steps p.tables e below (T'.setTop { g with pc := g.pc + 3, stack := v.toList ++ rest }) t → Steps p.tables e below (T.setTop g) t := by
  obtain ⟨v, _, ⟨T', L', k', n'⟩, -, X', ⟨L, hQ, q1, q2, q3⟩, st⟩ := Jvm.LawKit.callS X hx hown (mvT hZ wl) (mvT hZ wst) (mvT hZ wz) (mvT hZ wc) hy (backOf (W := W) hM hZ wc wz hf hl) hg hsize (argsL := argsL) (rest := rest) (fun sg hsg => by rw [hpd] at hsg; cases hsg; exact hlen) hstack hW hdg (fun _ _ => ⟨rfl, eT, hcs, hss⟩)
  dsimp only [Pt.U, Pt.locs, Pt.cells, Pt.slots] at X' q1 q2 q3 st hQ
  subst q1 q2 q3
  exact ⟨v, T', L, X', hQ, st⟩
theorem own_callSP (X : Stand p l e R s m args below meth c T locs cells slots) (hx : p.tables.exec = Jvm.exec) (hZ : Z.Warmed39 s.vm) {own : String} (hown : s.vm.findClass own = some m.cls) {index : Nat} {y : MethodName} {bytes : ByteArray} {maxL : Nat} {ret : Option FieldType} {rm : Room} {argsL rest : List Value} {w : Value}
    (hM : own_Con l Z y bytes maxL ret rm argsL.toArray h (own_PQ h w) []) (eT : T.heap = h) (wl : (Jvm.Cond.methodLink own index y).before a0 Z = true) (wst : (Jvm.Cond.static y).before a0 Z = true) (wz : (Jvm.Cond.initialized y.cls).before a0 Z = true) (wc : (Jvm.Cond.code y bytes maxL ret).before a0 Z = true) (hy : y.cls ≠ "java/lang/invoke/MethodHandle" ∧ y.cls ≠ "java/lang/invoke/VarHandle")
    {sig : MethodDescriptor} (hpd : parseMethodDescriptor y.desc = some sig) (hlen : argsL.length = sig.parameters.length) {g : JFrame} (hg : g.method = m) (hsize : g.locals.size = c.maxLocals) (hstack : g.stack = argsL.reverse ++ rest) (W : Nat) (hW : 2 * g.monitorRoom + (rest.map fun v => v.category).sum ≤ W) (hdg : decode c.code g.pc = .ok (.invokestatic index, 3))
    (hf : rm.frames + 1 ≤ R.frames) (hl : W + (maxL + 11) + rm.locals ≤ R.locals) (hrc : rm.cells = 0) (hrs : rm.slots = 0) (hcs : cells ≤ R.cells) (hss : slots ≤ R.slots) :
    ∃ (T' : State), Stand p l e R s m args below meth c T' locs cells slots ∧ T'.heap = h ∧ ∀ t, Steps p.tables e below (T'.setTop { g with pc := g.pc + 3, stack := w :: rest }) t → Steps p.tables e below (T.setTop g) t := by
  obtain ⟨v, T', L, X', ⟨rfl, q2, rfl⟩, st⟩ := own_callS X hx hZ hown hM eT wl wst wz wc hy hpd hlen hg hsize hstack W hW hdg hf hl (by omega) (by omega)
  rw [List.append_nil, hrc, hrs] at X'
  exact ⟨T', X', q2, st⟩
theorem own_callI (X : Stand p l e R s m args below meth c T locs cells slots) (hx : p.tables.exec = Jvm.exec) (hZ : Z.Warmed39 s.vm) {own : String} (hown : s.vm.findClass own = some m.cls) {index : Nat} {y : MethodName} (hy1 : y.name = "<init>") {bytes : ByteArray} {maxL : Nat} {rm : Room} {b : Addr} {argsL rest : List Value} {Q : Option Value → Heap → List Loc → Prop}
    (hM : own_Con l Z y bytes maxL none rm (Value.ref b :: argsL).toArray h Q []) (eT : T.heap = h) (wl : (Jvm.Cond.methodLink own index y).before a0 Z = true) (wi : (Jvm.Cond.instanceMethod y).before a0 Z = true) (wz : (Jvm.Cond.initialized y.cls).before a0 Z = true) (wc : (Jvm.Cond.code y bytes maxL none).before a0 Z = true) (hy : y.cls ≠ "java/lang/invoke/MethodHandle" ∧ y.cls ≠ "java/lang/invoke/VarHandle")
    {sig : MethodDescriptor} (hpd : parseMethodDescriptor y.desc = some sig) (hlen : argsL.length = sig.parameters.length) {g : JFrame} (hg : g.method = m) (hsize : g.locals.size = c.maxLocals) (hstack : g.stack = argsL.reverse ++ .ref b :: rest) (W : Nat) (hW : 2 * g.monitorRoom + (rest.map fun v => v.category).sum ≤ W) (hdg : decode c.code g.pc = .ok (.invokespecial index, 3))
    (hf : rm.frames + 1 ≤ R.frames) (hl : W + (maxL + 11) + rm.locals ≤ R.locals) (hcs : cells + rm.cells ≤ R.cells) (hss : slots + rm.slots ≤ R.slots) :
    ∃ (v : Option Value) (T' : State) (L : List Loc), Stand p l e R s m args below meth c T' (locs ++ L) (cells + rm.cells) (slots + rm.slots) ∧ Q v T'.heap L ∧ ∀ t, Steps p.tables e below (T'.setTop { g with pc := g.pc + 3, stack := v.toList ++ rest }) t → Steps p.tables e below (T.setTop g) t := by
  obtain ⟨v, _, ⟨T', L', k', n'⟩, -, X', ⟨L, hQ, q1, q2, q3⟩, st⟩ := X.specialBack hx hy1 hown (mvT hZ wl) (mvT hZ wi) (mvT hZ wc) hy (backOf (W := W) hM hZ wc wz hf hl) hg hsize (Steps.refl _) (a := b) (argsL := argsL) (rest := rest) (fun sg hsg => by rw [hpd] at hsg; cases hsg; exact hlen) hstack hW hdg (fun _ _ => ⟨rfl, eT, hcs, hss⟩)
  dsimp only [Pt.U, Pt.locs, Pt.cells, Pt.slots] at X' q1 q2 q3 st hQ
  subst q1 q2 q3
  exact ⟨v, T', L, X', hQ, fun _ k => st.trans k⟩
theorem own_callV (X : Stand p l e R s m args below meth c T locs cells slots) (hx : p.tables.exec = Jvm.exec) (hZ : Z.Warmed39 s.vm) {own C : String} (hown : s.vm.findClass own = some m.cls) {index : Nat} {y z : MethodName} {bytes : ByteArray} {maxL : Nat} {ret : Option FieldType} {rm : Room} {b : Addr} {argsL rest : List Value} {Q : Option Value → Heap → List Loc → Prop}
    (hM : own_Con l Z z bytes maxL ret rm (Value.ref b :: argsL).toArray h Q []) (eT : T.heap = h) (hE : Exa Z h b C) (wl : (Jvm.Cond.methodLink own index y).before a0 Z = true) (wd : (Jvm.Cond.declares y).before a0 Z = true) (wsel : (Jvm.Cond.selects C y z).before a0 Z = true) (wi : (Jvm.Cond.instanceMethod z).before a0 Z = true) (wz : (Jvm.Cond.initialized z.cls).before a0 Z = true) (wc : (Jvm.Cond.code z bytes maxL ret).before a0 Z = true) (hnf : NotFace s y) (hy : y.cls ≠ "java/lang/invoke/MethodHandle" ∧ y.cls ≠ "java/lang/invoke/VarHandle")
    {sig : MethodDescriptor} (hpd : parseMethodDescriptor y.desc = some sig) (hlen : argsL.length = sig.parameters.length) {g : JFrame} (hg : g.method = m) (hsize : g.locals.size = c.maxLocals) (hstack : g.stack = argsL.reverse ++ .ref b :: rest) (W : Nat) (hW : 2 * g.monitorRoom + (rest.map fun v => v.category).sum ≤ W) (hdg : decode c.code g.pc = .ok (.invokevirtual index, 3))
    (hf : rm.frames + 1 ≤ R.frames) (hl : W + (maxL + 11) + rm.locals ≤ R.locals) (hcs : cells + rm.cells ≤ R.cells) (hss : slots + rm.slots ≤ R.slots) :
    ∃ (v : Option Value) (T' : State) (L : List Loc), Stand p l e R s m args below meth c T' (locs ++ L) (cells + rm.cells) (slots + rm.slots) ∧ Q v T'.heap L ∧ ∀ t, Steps p.tables e below (T'.setTop { g with pc := g.pc + 3, stack := v.toList ++ rest }) t → Steps p.tables e below (T.setTop g) t := by
  obtain ⟨cq, kq, qa, qb, qc⟩ := isOf hZ eT hE
  obtain ⟨v, _, ⟨T', L', k', n'⟩, -, X', ⟨L, hQ, q1, q2, q3⟩, st⟩ := X.virtualBack hx hown (mvT hZ wl) (mvT hZ wd) hnf (mvT hZ wsel) (mvT hZ wi) hy (backOf (W := W) hM hZ wc wz hf hl) qa qc hg hsize (Steps.refl _) (argsL := argsL) (rest := rest) (fun sg hsg => by rw [hpd] at hsg; cases hsg; exact hlen) hstack hW hdg (fun _ _ => ⟨rfl, eT, hcs, hss⟩)
  dsimp only [Pt.U, Pt.locs, Pt.cells, Pt.slots] at X' q1 q2 q3 st hQ
  subst q1 q2 q3
  exact ⟨v, T', L, X', hQ, fun _ k => st.trans k⟩
theorem own_callP (X : Stand p l e R s m args below meth c T locs cells slots) (hx : p.tables.exec = Jvm.exec) (hZ : Z.Warmed39 s.vm) {own C : String} (hown : s.vm.findClass own = some m.cls) {index kk : Nat} {y : MethodName} {bytes : ByteArray} {maxL : Nat} {ret : Option FieldType} {rm : Room} {b : Addr} {argsL rest : List Value} {Q : Option Value → Heap → List Loc → Prop}
    (hM : own_Con l Z y bytes maxL ret rm (Value.ref b :: argsL).toArray h Q []) (eT : T.heap = h) (hE : Exa Z h b C) (wl : (Jvm.Cond.methodLink own index y).before a0 Z = true) (wi : (Jvm.Cond.instanceMethod y).before a0 Z = true) (wp : (Jvm.Cond.privateMethod y).before a0 Z = true) (wn : (Jvm.Cond.instantiable y.cls kk).before a0 Z = true) (wz : (Jvm.Cond.initialized y.cls).before a0 Z = true) (wc : (Jvm.Cond.code y bytes maxL ret).before a0 Z = true) (hy : y.cls ≠ "java/lang/invoke/MethodHandle" ∧ y.cls ≠ "java/lang/invoke/VarHandle")
    {sig : MethodDescriptor} (hpd : parseMethodDescriptor y.desc = some sig) (hlen : argsL.length = sig.parameters.length) {g : JFrame} (hg : g.method = m) (hsize : g.locals.size = c.maxLocals) (hstack : g.stack = argsL.reverse ++ .ref b :: rest) (W : Nat) (hW : 2 * g.monitorRoom + (rest.map fun v => v.category).sum ≤ W) (hdg : decode c.code g.pc = .ok (.invokevirtual index, 3))
    (hf : rm.frames + 1 ≤ R.frames) (hl : W + (maxL + 11) + rm.locals ≤ R.locals) (hcs : cells + rm.cells ≤ R.cells) (hss : slots + rm.slots ≤ R.slots) :
    ∃ (v : Option Value) (T' : State) (L : List Loc), Stand p l e R s m args below meth c T' (locs ++ L) (cells + rm.cells) (slots + rm.slots) ∧ Q v T'.heap L ∧ ∀ t, Steps p.tables e below (T'.setTop { g with pc := g.pc + 3, stack := v.toList ++ rest }) t → Steps p.tables e below (T.setTop g) t := by
  obtain ⟨cq, q, q'⟩ := hE.cell
  have hp := Cond.privateMethod_at (mvP hZ wp (args := #[]))
  have hn : (Jvm.Cond.instantiable y.cls kk).before args s = true := mvT hZ wn
  obtain ⟨c2, k2, i1, i2, i3, i4, -⟩ := Cond.instantiable_spec hn
  have hsel : (Jvm.Cond.selects y.cls y y).before args s = true := selects_self_of_private i1 i2 (Bool.or_eq_false_iff.mp i4).1 hp (mvT hZ wi) hy
  obtain ⟨v, _, ⟨T', L', k', n'⟩, -, X', ⟨L, hQ, q1, q2, q3⟩, st⟩ := X.privateBack hx hown (mvT hZ wl) (mvT hZ wi) hsel hp (mvT hZ wc) hy (backOf (W := W) hM hZ wc wz hf hl) hg hsize (Steps.refl _) (a := b) (by rw [eT]; exact q) q' (argsL := argsL) (rest := rest) (fun sg hsg => by rw [hpd] at hsg; cases hsg; exact hlen) hstack hW hdg (fun _ _ => ⟨rfl, eT, hcs, hss⟩)
  dsimp only [Pt.U, Pt.locs, Pt.cells, Pt.slots] at X' q1 q2 q3 st hQ
  subst q1 q2 q3
  exact ⟨v, T', L, X', hQ, fun _ k => st.trans k⟩
theorem own_pn {y : MethodName} (hq : plainName y.cls = true) : plainFor y = true := plainFor_of_name hq
end OwnKit
section OwnArr
variable {p : Program} {l : Launch} {e : Env} {R : Room} {s : State} {m : MethodId} {args : Array Value} {below : List Frame} {meth : Method} {c : Code} {T : State} {locs : List Loc} {cells slots : Nat} {Z : State} {a0 : Array Value} {h h' h0 : Heap} {a b : Addr} {ty : FieldType} {vs : List Value} {v : Value} {i sl : Nat} {ws : List Addr}
/-- an array of ty's at a, its components vs -/
def own_AV (Z : State) (h : Heap) (a : Addr) (ty : FieldType) (vs : List Value) : Prop := ∃ c : Cell, Arr Z h a c ty ∧ c.slots.toList = vs ∧ vs.length < 2147483648 ∧ ∀ v ∈ vs, fits ty v = true
theorem own_AV.lt (A : own_AV Z h a ty vs) : a < h.size := by obtain ⟨c, q, -⟩ := A; exact q.lt
theorem own_AV.short (A : own_AV Z h a ty vs) : vs.length < 2147483648 := by obtain ⟨c, -, -, q, -⟩ := A; exact q
theorem own_AV.ext (A : own_AV Z h a ty vs) (E : Ext h h') : own_AV Z h' a ty vs := by obtain ⟨c, q, r⟩ := A; exact ⟨c, q.ext E, r⟩
theorem own_AV.other (A : own_AV Z h b ty vs) (W : Wr h h' a sl v) (q : b ≠ a) : own_AV Z h' b ty vs := by obtain ⟨c, k, r⟩ := A; exact ⟨c, k.other W q, r⟩
theorem own_AV.keep (A : own_AV Z h a ty vs) (K : Keep h h' ws) (q : a ∉ ws) : own_AV Z h' a ty vs := by obtain ⟨c, k, r⟩ := A; exact ⟨c, ⟨K.2.1 a c k.1 q, k.2⟩, r⟩
theorem own_AV.set (A : own_AV Z h a ty vs) (W : Wr h h' a i v) (hv : fits ty v = true) : own_AV Z h' a ty (vs.set i v) := by
  obtain ⟨c, k, r, z, f⟩ := A
  refine ⟨c.setSlot i v, k.same W, ?_, by rw [List.length_set]; exact z, fun u hu => ?_⟩
  · show (c.slots.setIfInBounds i v).toList = _
    rw [Array.toList_setIfInBounds, r]
  · rcases List.mem_or_eq_of_mem_set hu with q | q
    · exact f u q
    · rw [q]; exact hv
theorem own_idx {j : Int32} {i : Nat} (hj : j.toInt = i) : ¬ j < 0 ∧ j.toNatClampNeg = i := by
  refine ⟨?_, ?_⟩
  · rw [Int32.lt_iff_toInt_lt, hj]; show ¬ (i : Int) < 0; omega
  · simp only [Int32.toNatClampNeg, hj]; rfl
theorem own_AV_new {cA : ClassId} {n : Int32} {k : Nat} (A : Arr Z h a (newA cA ty n) ty) (hn : n.toInt = k) : own_AV Z h a ty (List.replicate k (defaultValue ty)) := by
  obtain ⟨q1, q2⟩ := own_idx hn
  refine ⟨_, A, ?_, ?_, fun v hv => ?_⟩
  · show (Array.replicate n.toNatClampNeg _).toList = _
    rw [q2, Array.toList_replicate]
  · rw [List.length_replicate]
    have := n.toInt_lt
    omega
  · rw [(List.mem_replicate.mp hv).2]; cases ty <;> rfl
theorem own_newA (X : Stand p l e R s m args below meth c T locs cells slots) (hx : p.tables.exec = Jvm.exec) (hZ : Z.Warmed39 s.vm) {aty : ArrayType} (w : (Jvm.Cond.arrayClass (newarray.typeOf aty)).before a0 Z = true) (eT : T.heap = h) {g : JFrame} (hg : g.method = m) (hd : decode c.code g.pc = .ok (.newarray aty, 2)) {n : Int32} {rest : List Value} (hs : g.stack = .int n :: rest)
    (k cap : Nat) (hn : n.toInt = k) (hk : k ≤ cap) (hb : cap * 8 ≤ 536870912) (hc : cells + 1 ≤ R.cells) (hl : slots + cap ≤ R.slots) :
    ∃ T' h', Stand p l e R s m args below meth c T' locs (cells + 1) (slots + cap) ∧ T'.heap = h' ∧ Ext h h' ∧ own_AV Z h' h.size (newarray.typeOf aty) (List.replicate k (defaultValue (newarray.typeOf aty))) ∧ ∀ t, Steps p.tables e below (T'.setTop { g with pc := g.pc + 2, stack := .ref h.size :: rest }) t → Steps p.tables e below (T.setTop g) t := by
  obtain ⟨q1, q2⟩ := own_idx hn
  obtain ⟨T', h', cA, X', e', E, A, st⟩ := newP X hx hZ w eT hg hd hs q1 (cap := cap) (by rw [q2]; exact hk) hb hc hl
  exact ⟨T', h', X', e', E, own_AV_new A hn, st⟩
theorem own_stI (X : Stand p l e R s m args below meth c T locs cells slots) (hx : p.tables.exec = Jvm.exec) (hZ : Z.Warmed39 s.vm) (eT : T.heap = h) (A : own_AV Z h a .int vs) {j x : Int32} {g : JFrame} (hg : g.method = m) {rest : List Value} (hs : g.stack = .int x :: .int j :: .ref a :: rest) (hd : decode c.code g.pc = .ok (.iastore, 1)) (i : Nat) (hj : j.toInt = i) (hi : i < vs.length) :
    ∃ T' h', Stand p l e R s m args below meth c T' (locs ++ [⟨a, i⟩]) cells slots ∧ T'.heap = h' ∧ Wr h h' a i (.int x) ∧ own_AV Z h' a .int (vs.set i (.int x)) ∧ ∀ t, Steps p.tables e below (T'.setTop { g with pc := g.pc + 1, stack := rest }) t → Steps p.tables e below (T.setTop g) t := by
  obtain ⟨q1, q2⟩ := own_idx hj
  have A' := A
  obtain ⟨cl, k, r, -, -⟩ := A
  have hz : cl.slots.size = vs.length := by rw [← r]; simp
  obtain ⟨T', h', X', e', W, st⟩ := stI X hx hZ eT k (j := j) (x := x) (by rw [q2, hz]; exact fun u => u.elim q1 (fun z => by omega)) hg hs hd
  rw [q2] at X' W
  exact ⟨T', h', X', e', W, A'.set W rfl, st⟩
theorem own_stJ (X : Stand p l e R s m args below meth c T locs cells slots) (hx : p.tables.exec = Jvm.exec) (hZ : Z.Warmed39 s.vm) (eT : T.heap = h) (A : own_AV Z h a .long vs) {j : Int32} {x : Int64} {g : JFrame} (hg : g.method = m) {rest : List Value} (hs : g.stack = .long x :: .int j :: .ref a :: rest) (hd : decode c.code g.pc = .ok (.lastore, 1)) (i : Nat) (hj : j.toInt = i) (hi : i < vs.length) :
    ∃ T' h', Stand p l e R s m args below meth c T' (locs ++ [⟨a, i⟩]) cells slots ∧ T'.heap = h' ∧ Wr h h' a i (.long x) ∧ own_AV Z h' a .long (vs.set i (.long x)) ∧ ∀ t, Steps p.tables e below (T'.setTop { g with pc := g.pc + 1, stack := rest }) t → Steps p.tables e below (T.setTop g) t := by
  obtain ⟨q1, q2⟩ := own_idx hj
  have A' := A
  obtain ⟨cl, k, r, -, -⟩ := A
  have hz : cl.slots.size = vs.length := by rw [← r]; simp
  obtain ⟨T', h', X', e', W, st⟩ := stJ X hx hZ eT k (j := j) (x := x) (by rw [q2, hz]; exact fun u => u.elim q1 (fun z => by omega)) hg hs hd
  rw [q2] at X' W
  exact ⟨T', h', X', e', W, A'.set W rfl, st⟩
theorem own_ldI (X : Stand p l e R s m args below meth c T locs cells slots) (hx : p.tables.exec = Jvm.exec) (hZ : Z.Warmed39 s.vm) (eT : T.heap = h) (A : own_AV Z h a .int vs) {j : Int32} {g : JFrame} (hg : g.method = m) {rest : List Value} (hs : g.stack = .int j :: .ref a :: rest) (hd : decode c.code g.pc = .ok (.iaload, 1)) (i : Nat) (hj : j.toInt = i) {x : Value} (hi : vs[i]? = some x) :
    ∀ t, Steps p.tables e below (T.setTop { g with pc := g.pc + 1, stack := x :: rest }) t → Steps p.tables e below (T.setTop g) t := by
  obtain ⟨q1, q2⟩ := own_idx hj
  obtain ⟨cl, k, r, -, -⟩ := A
  have hz : cl.slots.size = vs.length := by rw [← r]; simp
  have hv : cl.slots[i]? = some x := by rw [← Array.getElem?_toList, r]; exact hi
  have hl := (List.getElem?_eq_some_iff.mp hi).1
  exact X.iaload hx (by rw [eT]; exact k.1) (State.isArrayOf_alike hZ.alike k.2.1) k.2.2 (by rw [q2, hz]; exact fun u => u.elim q1 (fun z => by omega)) (by rw [q2]; exact hv) hg hs hd
theorem own_ldJ (X : Stand p l e R s m args below meth c T locs cells slots) (hx : p.tables.exec = Jvm.exec) (hZ : Z.Warmed39 s.vm) (eT : T.heap = h) (A : own_AV Z h a .long vs) {j : Int32} {g : JFrame} (hg : g.method = m) {rest : List Value} (hs : g.stack = .int j :: .ref a :: rest) (hd : decode c.code g.pc = .ok (.laload, 1)) (i : Nat) (hj : j.toInt = i) {x : Value} (hi : vs[i]? = some x) :
    ∀ t, Steps p.tables e below (T.setTop { g with pc := g.pc + 1, stack := x :: rest }) t → Steps p.tables e below (T.setTop g) t := by
  obtain ⟨q1, q2⟩ := own_idx hj
  obtain ⟨cl, k, r, -, -⟩ := A
  have hz : cl.slots.size = vs.length := by rw [← r]; simp
  have hv : cl.slots[i]? = some x := by rw [← Array.getElem?_toList, r]; exact hi
  have hl := (List.getElem?_eq_some_iff.mp hi).1
  exact X.laload hx (by rw [eT]; exact k.1) (State.isArrayOf_alike hZ.alike k.2.1) k.2.2 (by rw [q2, hz]; exact fun u => u.elim q1 (fun z => by omega)) (by rw [q2]; exact hv) hg hs hd
theorem own_len (X : Stand p l e R s m args below meth c T locs cells slots) (hx : p.tables.exec = Jvm.exec) (hZ : Z.Warmed39 s.vm) (eT : T.heap = h) (A : own_AV Z h a ty vs) {g : JFrame} (hg : g.method = m) {rest : List Value} (hs : g.stack = .ref a :: rest) (hd : decode c.code g.pc = .ok (.arraylength, 1)) (n : Int32) (hn : n.toInt = vs.length) :
    ∀ t, Steps p.tables e below (T.setTop { g with pc := g.pc + 1, stack := .int n :: rest }) t → Steps p.tables e below (T.setTop g) t := by
  obtain ⟨cl, k, r, z, -⟩ := A
  have hz : cl.slots.size = vs.length := by rw [← r]; simp
  have en : cl.slots.size.toInt32 = n := Int32.toInt_inj.mp (by rw [hn, hz]; exact len_toInt z)
  intro t q
  refine X.arraylength hx (by rw [eT]; exact k.1) (State.isArrayOf_alike hZ.alike k.2.1) hg hs hd t ?_
  rw [en]; exact q
theorem own_newAE (X : Stand p l e R s m args below meth c T locs cells slots) (hx : p.tables.exec = Jvm.exec) (hZ : Z.Warmed39 s.vm) {aty : ArrayType} (w : (Jvm.Cond.arrayClass (newarray.typeOf aty)).before a0 Z = true) (eT : T.heap = h) {g : JFrame} (hg : g.method = m) (hd : decode c.code g.pc = .ok (.newarray aty, 2)) {n : Int32} {rest : List Value} (hs : g.stack = .int n :: rest)
    (k cap : Nat) (hn : n.toInt = k) (hk : k ≤ cap) (hb : cap * 8 ≤ 536870912) (hc : cells + 1 ≤ R.cells) (hl : slots + cap ≤ R.slots) {ad : String} (had : "[" ++ (newarray.typeOf aty).toString = ad) :
    ∃ T' h', Stand p l e R s m args below meth c T' locs (cells + 1) (slots + cap) ∧ T'.heap = h' ∧ Ext h h' ∧ own_AV Z h' h.size (newarray.typeOf aty) (List.replicate k (defaultValue (newarray.typeOf aty))) ∧ Exa Z h' h.size ad ∧ ∀ t, Steps p.tables e below (T'.setTop { g with pc := g.pc + 2, stack := .ref h.size :: rest }) t → Steps p.tables e below (T.setTop g) t := by
  obtain ⟨q1, q2⟩ := own_idx hn
  obtain ⟨T', h', cA, X', e', E, A, C, st⟩ := newPE X hx hZ w eT hg hd hs q1 (cap := cap) (by rw [q2]; exact hk) hb hc hl had
  exact ⟨T', h', X', e', E, own_AV_new A hn, C, st⟩
theorem own_AV.arv (A : own_AV Z h a ty vs) {z : Int32} (hz : z.toInt = vs.length) (dv : Value) : ∃ k, Arv Z h a k ty z vs dv := by
  obtain ⟨q1, q2⟩ := own_idx hz
  obtain ⟨cl, k, r, -, f⟩ := A
  have hs : cl.slots.size = vs.length := by rw [← r]; simp
  refine ⟨cl.cls, cl, k, rfl, by rw [hs, q2], q1, fun i hi => ?_, fun i hi => ?_⟩
  · rw [← Array.getElem?_toList, r, List.getD_eq_getElem?_getD, List.getElem?_eq_getElem (by omega)]; rfl
  · rw [List.getD_eq_getElem?_getD, List.getElem?_eq_getElem (by omega)]; exact f _ (List.getElem_mem _)
theorem own_arv {k : ClassId} {z : Int32} {dv : Value} (F : Arv Z h a k ty z vs dv) (hl : vs.length = z.toNatClampNeg) : own_AV Z h a ty vs := by
  obtain ⟨cl, A, -, S, q, H, G⟩ := F
  have hs : cl.slots.size = vs.length := by rw [S, hl]
  have e1 : cl.slots.toList = vs := by
    apply List.ext_getElem?
    intro i
    by_cases hi : i < vs.length
    · have := H i (by omega)
      rw [Array.getElem?_toList, this, List.getD_eq_getElem?_getD, List.getElem?_eq_getElem hi]; rfl
    · rw [List.getElem?_eq_none (l := vs) (by omega), List.getElem?_eq_none (l := cl.slots.toList) (by rw [Array.length_toList]; omega)]
  refine ⟨cl, A, e1, ?_, fun v hv => ?_⟩
  · have := z.toInt_lt
    rw [hl]; simp only [Int32.toNatClampNeg]; omega
  · obtain ⟨i, hi, rfl⟩ := List.getElem_of_mem hv
    have := G i (by omega)
    rw [List.getD_eq_getElem?_getD, List.getElem?_eq_getElem hi] at this
    exact this
theorem own_copy (X : Stand p l e R s m args below meth c T locs cells slots) (hx : p.tables.exec = Jvm.exec) (hZ : Z.Warmed39 s.vm) {own : String} {index : Nat} (hown : s.vm.findClass own = some m.cls)
    (w1 : (Jvm.Cond.methodLink own index Jvm.Stand.acN).before a0 Z = true) (w2 : (Jvm.Cond.native Jvm.Stand.acN).before a0 Z = true) (w3 : (Jvm.Cond.static Jvm.Stand.acN).before a0 Z = true) (w4 : (Jvm.Cond.initialized "java/lang/System").before a0 Z = true) (eT : T.heap = h)
    {us : List Value} (A : own_AV Z h a ty vs) (B : own_AV Z h b ty us) (hp : refKind ty = false) {sp dp nn : Int32} {g : JFrame} (hg : g.method = m) (hsize : g.locals.size = c.maxLocals) {rest : List Value} (hs : g.stack = .int nn :: .int dp :: .ref b :: .int sp :: .ref a :: rest) (hd : decode c.code g.pc = .ok (.invokestatic index, 3))
    (i j n : Nat) (hsp : sp.toInt = i) (hdp : dp.toInt = j) (hn : nn.toInt = n) (h4 : i + n ≤ vs.length) (h5 : j + n ≤ us.length) {n0 : Nat} (N : Fr n0 locs) (ge : n0 ≤ b)
    (W : Nat) (hW : 2 * g.monitorRoom + (rest.map fun v => v.category).sum ≤ W) (hf : 1 ≤ R.frames) (hlo : W + (nativeFrameWords "java/lang/System" "arraycopy" 5 + 11) ≤ R.locals) :
    ∃ T' h' L, Stand p l e R s m args below meth c T' L cells slots ∧ T'.heap = h' ∧ Fr n0 L ∧ Keep h h' [b] ∧ own_AV Z h' b ty (us.take j ++ (vs.drop i).take n ++ us.drop (j + n)) ∧
      ∀ t, Steps p.tables e below (T'.setTop { g with pc := g.pc + 3, stack := rest }) t → Steps p.tables e below (T.setTop g) t := by
  obtain ⟨s1, s2⟩ := own_idx hsp
  obtain ⟨d1, d2⟩ := own_idx hdp
  obtain ⟨n1, n2⟩ := own_idx hn
  have zA := len_toInt A.short
  have zB := len_toInt B.short
  obtain ⟨kA, FA⟩ := A.arv zA .null
  obtain ⟨kB, FB⟩ := B.arv zB .null
  have cA : vs.length.toInt32.toNatClampNeg = vs.length := (own_idx zA).2
  have cB : us.length.toInt32.toNatClampNeg = us.length := (own_idx zB).2
  have hus : (vs.drop i).take n = (List.range nn.toNatClampNeg).map fun q => vs.getD (sp.toNatClampNeg + q) .null := by
    rw [n2, s2]
    apply List.ext_getElem?
    intro q
    by_cases hq : q < n
    · rw [List.getElem?_take_of_lt hq, List.getElem?_drop, List.getElem?_map, List.getElem?_range hq, List.getElem?_eq_getElem (by omega)]
      show some _ = some (vs.getD (i + q) .null)
      rw [List.getD_eq_getElem?_getD, List.getElem?_eq_getElem (by omega)]; rfl
    · rw [List.getElem?_eq_none (by rw [List.length_take]; omega), List.getElem?_eq_none (by simp; omega)]
  obtain ⟨T', h', L, X', e', NL, K, F', st⟩ := cpA X hx hZ hown w1 w2 w3 w4 eT FA FB (Or.inl ⟨rfl, hp⟩) s1 d1 n1 (by rw [s2, n2, cA]; exact h4) (by rw [d2, n2, cB]; exact h5) hus (by rw [d2, n2]; exact h5) N ge hg hsize hs hd hf hW hlo
  rw [d2, n2] at F'
  exact ⟨T', h', L, X', e', NL, K, own_arv F' (by rw [cB]; simp only [List.length_append, List.length_take, List.length_drop]; omega), st⟩
theorem own_clone (X : Stand p l e R s m args below meth c T locs cells slots) (hx : p.tables.exec = Jvm.exec) (hZ : Z.Warmed39 s.vm) {own ad : String} {index : Nat} (hown : s.vm.findClass own = some m.cls)
    (w1 : (Jvm.Cond.methodLink own index ⟨ad, "clone", "()Ljava/lang/Object;"⟩).before a0 Z = true) (w2 : (Jvm.Cond.sameMethod ad "java/lang/Object" "clone" "()Ljava/lang/Object;").before a0 Z = true) (w3 : (Jvm.Cond.native ⟨"java/lang/Object", "clone", "()Ljava/lang/Object;"⟩).before a0 Z = true)
    (w4 : (Jvm.Cond.instanceMethod ⟨"java/lang/Object", "clone", "()Ljava/lang/Object;"⟩).before a0 Z = true) (w5 : (Jvm.Cond.selects ad ⟨ad, "clone", "()Ljava/lang/Object;"⟩ ⟨"java/lang/Object", "clone", "()Ljava/lang/Object;"⟩).before a0 Z = true) (w6 : (Jvm.Cond.castable ad "java/lang/Cloneable").before a0 Z = true)
    (eT : T.heap = h) (A : own_AV Z h a ty vs) (E : Exa Z h a ad) {g : JFrame} (hg : g.method = m) (hsize : g.locals.size = c.maxLocals) {rest : List Value} (hs : g.stack = .ref a :: rest) (hd : decode c.code g.pc = .ok (.invokevirtual index, 3))
    (W cap : Nat) (hW : 2 * g.monitorRoom + (rest.map fun v => v.category).sum ≤ W) (hf : 1 ≤ R.frames) (hl : W + 14 ≤ R.locals) (hcap : vs.length ≤ cap) (hc : cells + 1 ≤ R.cells) (hsl : slots + cap ≤ R.slots) :
    ∃ T' h', Stand p l e R s m args below meth c T' locs (cells + 1) (slots + cap) ∧ T'.heap = h' ∧ Ext h h' ∧ own_AV Z h' h.size ty vs ∧ Exa Z h' h.size ad ∧
      ∀ t, Steps p.tables e below (T'.setTop { g with pc := g.pc + 3, stack := .ref h.size :: rest }) t → Steps p.tables e below (T.setTop g) t := by
  obtain ⟨cl, k, r, z, f⟩ := A
  have hz : cl.slots.size = vs.length := by rw [← r]; simp
  have FC : FitC Z cl := fitC_of k fun i hi v hv => f v (by rw [← r]; exact List.mem_of_getElem? (i := i) (by rw [Array.getElem?_toList]; exact hv))
  obtain ⟨T', h', X', e', E', A', C', st⟩ := cloneA X hx hZ hown w1 w2 w3 w4 w5 w6 eT k E FC hg hsize hs hd hf (W := W) hW hl (cap := cap) (by omega) hc hsl
  exact ⟨T', h', X', e', E', ⟨_, A', r, z, f⟩, C', st⟩
end OwnArr
section OwnWide
open Jvm.Free.SB Jvm.Free.SBG
variable {p : Program} {l : Launch} {e : Env} {R : Room} {s : State} {m : MethodId} {args : Array Value} {below : List Frame} {meth : Method} {c : Code} {T : State} {locs : List Loc} {cells slots : Nat} {Z : State} {a0 : Array Value} {h h' h0 : Heap} {vm0 : Vm} {k0 : Nat} {a b : Addr} {ty : FieldType} {vs : List Value}
/-! chars and bytes -/
theorem own_stC (X : Stand p l e R s m args below meth c T locs cells slots) (hx : p.tables.exec = Jvm.exec) (hZ : Z.Warmed39 s.vm) (eT : T.heap = h) (A : own_AV Z h a .char vs) {j x : Int32} {g : JFrame} (hg : g.method = m) {rest : List Value} (hs : g.stack = .int x :: .int j :: .ref a :: rest) (hd : decode c.code g.pc = .ok (.castore, 1)) (i : Nat) (hj : j.toInt = i) (hi : i < vs.length) (hr : 0 ≤ x.toInt ∧ x.toInt < 65536) :
    ∃ T' h', Stand p l e R s m args below meth c T' (locs ++ [⟨a, i⟩]) cells slots ∧ T'.heap = h' ∧ Wr h h' a i (.int x) ∧ own_AV Z h' a .char (vs.set i (.int x)) ∧ ∀ t, Steps p.tables e below (T'.setTop { g with pc := g.pc + 1, stack := rest }) t → Steps p.tables e below (T.setTop g) t := by
  obtain ⟨q1, q2⟩ := own_idx hj
  have A' := A
  obtain ⟨cl, k, r, -, -⟩ := A
  have hz : cl.slots.size = vs.length := by rw [← r]; simp
  have en : nar .char x = x := Int32.toInt_inj.mp (by
    show x.toUInt32.toUInt16.toUInt32.toInt32.toInt = _
    have := c_i2c x
    omega)
  obtain ⟨T', h', X', e', W, st⟩ := stC X hx hZ eT k (j := j) (x := x) (by rw [q2, hz]; exact fun u => u.elim q1 (fun z => by omega)) hg hs hd
  rw [q2] at X' W
  rw [en] at W
  refine ⟨T', h', X', e', W, A'.set W ?_, st⟩
  simp only [fits, Bool.and_eq_true, decide_eq_true_eq, Int32.le_iff_toInt_le, Int32.reduceToInt]
  omega
theorem own_stB (X : Stand p l e R s m args below meth c T locs cells slots) (hx : p.tables.exec = Jvm.exec) (hZ : Z.Warmed39 s.vm) (eT : T.heap = h) (A : own_AV Z h a .byte vs) {j x : Int32} {g : JFrame} (hg : g.method = m) {rest : List Value} (hs : g.stack = .int x.toInt8.toInt32 :: .int j :: .ref a :: rest) (hd : decode c.code g.pc = .ok (.bastore, 1)) (i : Nat) (hj : j.toInt = i) (hi : i < vs.length) :
    ∃ T' h', Stand p l e R s m args below meth c T' (locs ++ [⟨a, i⟩]) cells slots ∧ T'.heap = h' ∧ Wr h h' a i (.int x.toInt8.toInt32) ∧ own_AV Z h' a .byte (vs.set i (.int x.toInt8.toInt32)) ∧ ∀ t, Steps p.tables e below (T'.setTop { g with pc := g.pc + 1, stack := rest }) t → Steps p.tables e below (T.setTop g) t := by
  obtain ⟨q1, q2⟩ := own_idx hj
  have A' := A
  obtain ⟨cl, k, r, -, -⟩ := A
  have hz : cl.slots.size = vs.length := by rw [← r]; simp
  have en : nar .byte x.toInt8.toInt32 = x.toInt8.toInt32 := Int32.toInt_inj.mp (by
    show x.toInt8.toInt32.toInt8.toInt32.toInt = _
    have := c_i2b x
    have := c_i2b x.toInt8.toInt32
    omega)
  obtain ⟨T', h', X', e', W, st⟩ := stB X hx hZ eT k (j := j) (x := x.toInt8.toInt32) (by rw [q2, hz]; exact fun u => u.elim q1 (fun z => by omega)) hg hs hd
  rw [q2] at X' W
  rw [en] at W
  exact ⟨T', h', X', e', W, A'.set W (fits_nar_byte x), st⟩
theorem own_ldC (X : Stand p l e R s m args below meth c T locs cells slots) (hx : p.tables.exec = Jvm.exec) (hZ : Z.Warmed39 s.vm) (eT : T.heap = h) (A : own_AV Z h a .char vs) {j : Int32} {g : JFrame} (hg : g.method = m) {rest : List Value} (hs : g.stack = .int j :: .ref a :: rest) (hd : decode c.code g.pc = .ok (.caload, 1)) (i : Nat) (hj : j.toInt = i) {x : Value} (hi : vs[i]? = some x) :
    ∀ t, Steps p.tables e below (T.setTop { g with pc := g.pc + 1, stack := x :: rest }) t → Steps p.tables e below (T.setTop g) t := by
  obtain ⟨q1, q2⟩ := own_idx hj
  obtain ⟨cl, k, r, -, -⟩ := A
  have hz : cl.slots.size = vs.length := by rw [← r]; simp
  have hv : cl.slots[i]? = some x := by rw [← Array.getElem?_toList, r]; exact hi
  have hl := (List.getElem?_eq_some_iff.mp hi).1
  exact X.caload hx (by rw [eT]; exact k.1) (State.isArrayOf_alike hZ.alike k.2.1) k.2.2 (by rw [q2, hz]; exact fun u => u.elim q1 (fun z => by omega)) (by rw [q2]; exact hv) hg hs hd
theorem own_ldB (X : Stand p l e R s m args below meth c T locs cells slots) (hx : p.tables.exec = Jvm.exec) (hZ : Z.Warmed39 s.vm) (eT : T.heap = h) (A : own_AV Z h a .byte vs) {j : Int32} {g : JFrame} (hg : g.method = m) {rest : List Value} (hs : g.stack = .int j :: .ref a :: rest) (hd : decode c.code g.pc = .ok (.baload, 1)) (i : Nat) (hj : j.toInt = i) {x : Value} (hi : vs[i]? = some x) :
    ∀ t, Steps p.tables e below (T.setTop { g with pc := g.pc + 1, stack := x :: rest }) t → Steps p.tables e below (T.setTop g) t := by
  obtain ⟨q1, q2⟩ := own_idx hj
  obtain ⟨cl, k, r, -, -⟩ := A
  have hz : cl.slots.size = vs.length := by rw [← r]; simp
  have hv : cl.slots[i]? = some x := by rw [← Array.getElem?_toList, r]; exact hi
  have hl := (List.getElem?_eq_some_iff.mp hi).1
  exact X.baloadBytes hx (by rw [eT]; exact k.1) (State.isArrayOf_alike hZ.alike k.2.1) k.2.2 (by rw [q2, hz]; exact fun u => u.elim q1 (fun z => by omega)) (by rw [q2]; exact hv) hg hs hd
/-! a body that may intern -/
abbrev own_EL : List (String × Nat) := [("java/lang/String", 7)]
def own_OutW (Z s : State) (Q : Option Value → Heap → List Loc → Prop) (C S : Nat) (o : Outcome) (U : State) : Prop :=
  ∃ v L, o = .returned v ∧ Q v U.heap L ∧ CHr Z own_EL s.vm s.heap U.vm U.heap ∧ ReturnedEndW s o U L C S
def own_OutM (s : State) (Q : Option Value → Heap → List Loc → Prop) (C S : Nat) (o : Outcome) (U : State) : Prop :=
  ∃ v L, o = .returned v ∧ Q v U.heap L ∧ ReturnedEndW s o U L C S
def own_ConW (l : Launch) (Z : State) (y : MethodName) (bytes : ByteArray) (maxL : Nat) (ret : Option FieldType) (rm : Room) (as' : Array Value) (h0 : Heap) (Q : Option Value → Heap → List Loc → Prop) (ws : List Jvm.Cond) : Prop :=
  MetFree l y (head1 (Jvm.Cond.code y bytes maxL ret :: ws) rm) (fun a U => a = as' ∧ Z.Warmed39 U.vm ∧ U.heap = h0 ∧ CHv Z own_EL U.vm h0) (fun _ _ _ _ _ => True) (fun _ U o U' => ∃ v L, o = .returned v ∧ Q v U'.heap L ∧ CHr Z own_EL U.vm U.heap U'.vm U'.heap ∧ ReturnedEndW U o U' L rm.cells rm.slots)
def own_ConM (l : Launch) (Z : State) (y : MethodName) (bytes : ByteArray) (maxL : Nat) (ret : Option FieldType) (rm : Room) (as' : Array Value) (h0 : Heap) (Q : Option Value → Heap → List Loc → Prop) (ws : List Jvm.Cond) : Prop :=
  MetFree l y (head1 (Jvm.Cond.code y bytes maxL ret :: ws) rm) (fun a U => a = as' ∧ Z.Warmed39 U.vm ∧ U.heap = h0 ∧ CHv Z own_EL U.vm h0) (fun _ _ _ _ _ => True) (fun _ U o U' => ∃ v L, o = .returned v ∧ Q v U'.heap L ∧ ReturnedEndW U o U' L rm.cells rm.slots)
theorem own_since0 {n : Nat} : s.Since s.vm n := ⟨State.Warmed39.refl s, fun j p hj hp => absurd (Array.getElem?_eq_some_iff.mp hp).1 (Nat.not_lt.mpr hj)⟩
theorem own_conW {y : MethodName} {bytes : ByteArray} {maxL : Nat} {ret : Option FieldType} {rm : Room} {as' : Array Value} {Q : Option Value → Heap → List Loc → Prop} {ws : List Jvm.Cond} {F : MethodId → JFrame} (hpn : plainFor y = true) (hef : ∀ m, entryFrame m as' maxL = F m)
    (H : ∀ (p : Program) (e : Env) (s : State) (m : MethodId) (below : List Frame) (meth : Method) (c : Code) (T : State), Stand p l e rm (s.setVm s.vm) m as' below meth c T [] 0 0 → p.tables.exec = Jvm.exec → c.code = bytes → c.maxLocals = maxL → Z.Warmed39 (s.setVm s.vm).vm → (s.setVm s.vm).vm.findClass y.cls = some m.cls → meth.name = y.name →
      meth.sig.returnType = ret → meth.locks = false → T.heap = h0 → s.heap = h0 → CHv Z own_EL s.vm h0 → own_Go p e below (own_OutW Z s Q rm.cells rm.slots) (T.setTop (F m))) :
    own_ConW l Z y bytes maxL ret rm as' h0 Q ws := by
  refine MetFree.of_bodySF hpn hisR ?_
  intro p e s m args below meth c s₁ Bd hml0 hP hK
  obtain ⟨rfl, hZ, hh, hH⟩ := hP
  have k := H p e s m below meth c s₁ (Stand.of_body Bd) Bd.exec Bd.bytes hml0 hZ (findClass_of_methodNamed Bd.named) (name_of_methodNamed Bd.named Bd.method).1 Bd.returns Bd.notSynchronized (by rw [← hh, Bd.state]; rfl) hh hH
  rw [← hef m] at k
  exact k
theorem own_conM {y : MethodName} {bytes : ByteArray} {maxL : Nat} {ret : Option FieldType} {rm : Room} {as' : Array Value} {Q : Option Value → Heap → List Loc → Prop} {ws : List Jvm.Cond} {F : MethodId → JFrame} (hpn : plainFor y = true) (hef : ∀ m, entryFrame m as' maxL = F m)
    (H : ∀ (p : Program) (e : Env) (s : State) (m : MethodId) (below : List Frame) (meth : Method) (c : Code) (T : State), Stand p l e rm (s.setVm s.vm) m as' below meth c T [] 0 0 → p.tables.exec = Jvm.exec → c.code = bytes → c.maxLocals = maxL → Z.Warmed39 (s.setVm s.vm).vm → (s.setVm s.vm).vm.findClass y.cls = some m.cls → meth.name = y.name →
      meth.sig.returnType = ret → meth.locks = false → T.heap = h0 → s.heap = h0 → CHv Z own_EL s.vm h0 → own_Go p e below (own_OutM s Q rm.cells rm.slots) (T.setTop (F m))) :
    own_ConM l Z y bytes maxL ret rm as' h0 Q ws := by
  refine MetFree.of_bodySF hpn hisR ?_
  intro p e s m args below meth c s₁ Bd hml0 hP hK
  obtain ⟨rfl, hZ, hh, hH⟩ := hP
  have k := H p e s m below meth c s₁ (Stand.of_body Bd) Bd.exec Bd.bytes hml0 hZ (findClass_of_methodNamed Bd.named) (name_of_methodNamed Bd.named Bd.method).1 Bd.returns Bd.notSynchronized (by rw [← hh, Bd.state]; rfl) hh hH
  rw [← hef m] at k
  exact k
theorem own_iretM (X : Stand p l e R (s.setVm vm0) m args below meth c T locs cells slots) (hx : p.tables.exec = Jvm.exec) (hlk : meth.locks = false) {t : FieldType} (hret : meth.sig.returnType = some t) (hti : t = .int ∨ t = .boolean ∨ t = .byte ∨ t = .char ∨ t = .short) {pc : Nat} {Ls : Array Slot} {z : Int32} (hn : narrow t (.int z) = .int z)
    (hd : decode c.code pc = .ok (.ireturn, 1)) (hS : s.Since vm0 k0) (hk : k0 ≤ T.heap.size) {Q : Option Value → Heap → List Loc → Prop} {C S : Nat} (hC : cells ≤ C) (hSl : slots ≤ S) (hq : Q (some (.int z)) T.heap locs) : own_Go p e below (own_OutM s Q C S) (T.setTop (mkF m pc Ls [.int z])) := by
  obtain ⟨fs, hr, hrun, hended, hW⟩ := X.leaveW hS hk (v := some (.int z)) (fun h => by rw [hret] at h; cases h)
  exact ⟨_, _, X.ireturnOut hx hret hn hti hd hr, hrun, hended, _, _, rfl, hq, hW.1, hW.2.1, hW.2.2.1, hW.2.2.2.mono hC hSl⟩
theorem own_aretW (X : Stand p l e R (s.setVm vm0) m args below meth c T locs cells slots) (hx : p.tables.exec = Jvm.exec) (hlk : meth.locks = false) {t : FieldType} (hret : meth.sig.returnType = some t) (ht : t.isReference = true) {pc : Nat} {Ls : Array Slot} {w : Value} (hw : w.isRef = true)
    (hd : decode c.code pc = .ok (.areturn, 1)) (hZ : Z.Warmed39 vm0) (hEL : EW Z a0 own_EL) (hS : s.Since vm0 k0) (hk : k0 ≤ T.heap.size) (eT : T.heap = h) (hC : CHr Z own_EL s.vm s.heap vm0 h) {Q : Option Value → Heap → List Loc → Prop} {C S : Nat} (hCl : cells ≤ C) (hSl : slots ≤ S) (hq : Q (some w) h locs) : own_Go p e below (own_OutW Z s Q C S) (T.setTop (mkF m pc Ls [w])) := by
  obtain ⟨fs, hr, hrun, hended, hW⟩ := X.leaveW hS hk (v := some w) (fun h => by rw [hret] at h; cases h)
  subst eT
  have q := CHv.at X hZ hEL hC.1
  exact ⟨_, _, X.areturnOut hx hw hret ht hd hr, hrun, hended, _, _, rfl, hq, hC.trans q, hW.1, hW.2.1, hW.2.2.1, hW.2.2.2.mono hCl hSl⟩
theorem own_vretW (X : Stand p l e R (s.setVm vm0) m args below meth c T locs cells slots) (hx : p.tables.exec = Jvm.exec) (hlk : meth.locks = false) (hret : meth.sig.returnType = none) {pc : Nat} {Ls : Array Slot}
    (hd : decode c.code pc = .ok (.return_, 1)) (hZ : Z.Warmed39 vm0) (hEL : EW Z a0 own_EL) (hS : s.Since vm0 k0) (hk : k0 ≤ T.heap.size) (eT : T.heap = h) (hC : CHr Z own_EL s.vm s.heap vm0 h) {Q : Option Value → Heap → List Loc → Prop} {C S : Nat} (hCl : cells ≤ C) (hSl : slots ≤ S) (hq : Q none h locs) : own_Go p e below (own_OutW Z s Q C S) (T.setTop (mkF m pc Ls [])) := by
  obtain ⟨fs, hr, hrun, hended, hW⟩ := X.leaveW hS hk (v := none) (fun _ => rfl)
  subst eT
  have q := CHv.at X hZ hEL hC.1
  exact ⟨_, _, X.returnOut hx hret hd hr, hrun, hended, _, _, rfl, hq, hC.trans q, hW.1, hW.2.1, hW.2.2.1, hW.2.2.2.mono hCl hSl⟩
theorem own_callSW (X : Stand p l e R (s.setVm vm0) m args below meth c T locs cells slots) (hx : p.tables.exec = Jvm.exec) (hZ : Z.Warmed39 vm0) {own : String} (hown : vm0.findClass own = some m.cls) {index : Nat} {y : MethodName} {bytes : ByteArray} {maxL : Nat} {ret : Option FieldType} {rm : Room} {argsL rest : List Value} {Q : Option Value → Heap → List Loc → Prop}
    (hM : own_ConW l Z y bytes maxL ret rm argsL.toArray h Q []) (eT : T.heap = h) (hEL : EW Z a0 own_EL) (H : CHv Z own_EL vm0 h) (hS : s.Since vm0 k0) (hk : k0 ≤ h.size) (wl : (Jvm.Cond.methodLink own index y).before a0 Z = true) (wst : (Jvm.Cond.static y).before a0 Z = true) (wz : (Jvm.Cond.initialized y.cls).before a0 Z = true) (wc : (Jvm.Cond.code y bytes maxL ret).before a0 Z = true) (hy : y.cls ≠ "java/lang/invoke/MethodHandle" ∧ y.cls ≠ "java/lang/invoke/VarHandle")
    {sig : MethodDescriptor} (hpd : parseMethodDescriptor y.desc = some sig) (hlen : argsL.length = sig.parameters.length) {g : JFrame} (hg : g.method = m) (hsize : g.locals.size = c.maxLocals) (hstack : g.stack = argsL.reverse ++ rest) (W : Nat) (hW : 2 * g.monitorRoom + (rest.map fun v => v.category).sum ≤ W) (hdg : decode c.code g.pc = .ok (.invokestatic index, 3))
    (hf : rm.frames + 1 ≤ R.frames) (hl : W + (maxL + 11) + rm.locals ≤ R.locals) (hcs : cells + rm.cells ≤ R.cells) (hss : slots + rm.slots ≤ R.slots) :
    ∃ (v : Option Value) (T' : State) (L : List Loc), Stand p l e R (s.setVm T'.vm) m args below meth c T' (locs ++ L) (cells + rm.cells) (slots + rm.slots) ∧ Q v T'.heap L ∧ CHr Z own_EL vm0 h T'.vm T'.heap ∧ s.Since T'.vm T'.heap.size ∧ Z.Warmed39 (s.setVm T'.vm).vm ∧ (s.setVm T'.vm).vm.findClass own = some m.cls ∧
      ∀ t, Steps p.tables e below (T'.setTop { g with pc := g.pc + 3, stack := v.toList ++ rest }) t → Steps p.tables e below (T.setTop g) t := by
  have hZ' : Z.Warmed39 (s.setVm vm0).vm := hZ
  have hcode : (Jvm.Cond.code y bytes maxL ret).before args (s.setVm vm0) = true := mvT hZ' wc
  obtain ⟨mk, hnamed⟩ := Cond.named_of_code (x := y) hcode
  obtain ⟨methM, cM, hmethM, -, -, -, -, -, -, hsig⟩ := Cond.code_spec hnamed hcode
  obtain ⟨v, vm₁, ⟨T', L', k', n'⟩, hW₁, X', hS', hgr, ⟨L, hQ, q1, q2, q3, hC⟩, st⟩ := X.staticBackS hx hown (mvT hZ' wl) (mvT hZ' wst) (mvT hZ' wz) hnamed hmethM hsig hy (backOfSH (W := W) hM hZ wc wz hf hl hEL H) hg hsize (Steps.refl _) (argsL := argsL) (rest := rest) (fun sg hsg => by rw [hpd] at hsg; cases hsg; exact hlen) hstack hW hdg (fun _ _ => ⟨rfl, eT, hcs, hss⟩)
  dsimp only [Pt.U, Pt.locs, Pt.cells, Pt.slots] at X' q1 q2 q3 st hQ hC hS' hgr
  subst q1 q2 q3
  exact ⟨v, T', L, X', hQ, hC, hS.trans hS' (Nat.le_trans hk (by rw [← eT]; exact hgr)), State.Warmed39.trans (t := s.setVm vm0) hZ hS'.1, by rw [show (s.setVm T'.vm).vm = T'.vm from rfl, hS'.1.alike.findClass]; exact hown, fun _ k => st.trans k⟩
theorem own_callIW (X : Stand p l e R (s.setVm vm0) m args below meth c T locs cells slots) (hx : p.tables.exec = Jvm.exec) (hZ : Z.Warmed39 vm0) {own : String} (hown : vm0.findClass own = some m.cls) {index : Nat} {y : MethodName} (hy1 : y.name = "<init>") {bytes : ByteArray} {maxL : Nat} {rm : Room} {b : Addr} {argsL rest : List Value} {Q : Option Value → Heap → List Loc → Prop}
    (hM : own_ConW l Z y bytes maxL none rm (Value.ref b :: argsL).toArray h Q []) (eT : T.heap = h) (hEL : EW Z a0 own_EL) (H : CHv Z own_EL vm0 h) (hS : s.Since vm0 k0) (hk : k0 ≤ h.size) (wl : (Jvm.Cond.methodLink own index y).before a0 Z = true) (wi : (Jvm.Cond.instanceMethod y).before a0 Z = true) (wz : (Jvm.Cond.initialized y.cls).before a0 Z = true) (wc : (Jvm.Cond.code y bytes maxL none).before a0 Z = true) (hy : y.cls ≠ "java/lang/invoke/MethodHandle" ∧ y.cls ≠ "java/lang/invoke/VarHandle")
    {sig : MethodDescriptor} (hpd : parseMethodDescriptor y.desc = some sig) (hlen : argsL.length = sig.parameters.length) {g : JFrame} (hg : g.method = m) (hsize : g.locals.size = c.maxLocals) (hstack : g.stack = argsL.reverse ++ .ref b :: rest) (W : Nat) (hW : 2 * g.monitorRoom + (rest.map fun v => v.category).sum ≤ W) (hdg : decode c.code g.pc = .ok (.invokespecial index, 3))
    (hf : rm.frames + 1 ≤ R.frames) (hl : W + (maxL + 11) + rm.locals ≤ R.locals) (hcs : cells + rm.cells ≤ R.cells) (hss : slots + rm.slots ≤ R.slots) :
    ∃ (v : Option Value) (T' : State) (L : List Loc), Stand p l e R (s.setVm T'.vm) m args below meth c T' (locs ++ L) (cells + rm.cells) (slots + rm.slots) ∧ Q v T'.heap L ∧ CHr Z own_EL vm0 h T'.vm T'.heap ∧ s.Since T'.vm T'.heap.size ∧ Z.Warmed39 (s.setVm T'.vm).vm ∧ (s.setVm T'.vm).vm.findClass own = some m.cls ∧
      ∀ t, Steps p.tables e below (T'.setTop { g with pc := g.pc + 3, stack := v.toList ++ rest }) t → Steps p.tables e below (T.setTop g) t := by
  have hZ' : Z.Warmed39 (s.setVm vm0).vm := hZ
  obtain ⟨v, vm₁, ⟨T', L', k', n'⟩, hW₁, X', hS', hgr, ⟨L, hQ, q1, q2, q3, hC⟩, st⟩ := X.specialBackS hx hy1 hown (mvT hZ' wl) (mvT hZ' wi) (mvT hZ' wc) hy (backOfSH (W := W) hM hZ wc wz hf hl hEL H) hg hsize (Steps.refl _) (a := b) (argsL := argsL) (rest := rest) (fun sg hsg => by rw [hpd] at hsg; cases hsg; exact hlen) hstack hW hdg (fun _ _ => ⟨rfl, eT, hcs, hss⟩)
  dsimp only [Pt.U, Pt.locs, Pt.cells, Pt.slots] at X' q1 q2 q3 st hQ hC hS' hgr
  subst q1 q2 q3
  exact ⟨v, T', L, X', hQ, hC, hS.trans hS' (Nat.le_trans hk (by rw [← eT]; exact hgr)), State.Warmed39.trans (t := s.setVm vm0) hZ hS'.1, by rw [show (s.setVm T'.vm).vm = T'.vm from rfl, hS'.1.alike.findClass]; exact hown, fun _ k => st.trans k⟩
theorem own_ldcE (X : Stand p l e R (s.setVm vm0) m args below meth c T locs cells slots) (hx : p.tables.exec = Jvm.exec) (hZ : Z.Warmed39 vm0) (hown : vm0.findClass "java/lang/String" = some m.cls) (w : (Jvm.Cond.stringLink "java/lang/String" 7 "").before a0 Z = true) (wS : ∀ a ∈ Bundle.stringAtoms, a.before a0 Z = true)
    (eT : T.heap = h) (hS : s.Since vm0 k0) (hk : k0 ≤ h.size) (hEL : EW Z a0 own_EL) (H : CHv Z own_EL vm0 h) {g : JFrame} (hg : g.method = m) (hd : decode c.code g.pc = .ok (.ldc 7, 2)) (hc : cells + 2 ≤ R.cells) (hl : slots + 4 ≤ R.slots) :
    ∃ (a : Addr) (T' : State) (h' : Heap) (k1 : Nat) (b : Addr), Stand p l e R (s.setVm T'.vm) m args below meth c T' locs (cells + 2) (slots + 4) ∧ T'.heap = h' ∧ Ext h h' ∧ s.Since T'.vm k1 ∧ k1 ≤ h'.size ∧ Z.Warmed39 (s.setVm T'.vm).vm ∧ (s.setVm T'.vm).vm.findClass "java/lang/String" = some m.cls ∧
      Fld Z h' a "java/lang/String" "coder" "B" (.int 0) ∧ Fld Z h' a "java/lang/String" "value" "[B" (.ref b) ∧ own_AV Z h' b .byte [] ∧ CHr Z own_EL vm0 h T'.vm h' ∧ (∀ x, Safe Z own_EL T'.vm h' x → x ≠ a ∧ x ≠ b) ∧
      ∀ t, Steps p.tables e below (T'.setTop { g with pc := g.pc + 2, stack := .ref a :: g.stack }) t → Steps p.tables e below (T.setTop g) t := by
  obtain ⟨a, T', h', k1, b, kc, X', e', E', S', hk', Z', ow', -, F1, F2, A', -, -, C', -, ne', st⟩ := ldcCH X hx hZ hown w wS eT hS hk hEL (List.mem_cons_self ..) H (vs := []) (z := 0) ⟨by simp, by simp⟩ (by decide) (by decide) hg hd (n := 0) (by simp) (by decide) hc hl
  exact ⟨a, T', h', k1, b, X', e', E', S', hk', Z', ow', F1, F2, own_arv A' (by decide), C', ne', st⟩
/-- a String under construction is no constant's -/
theorem own_safe0 (hZ : Z.Warmed39 vm0) {kk : Nat} (wi : (Jvm.Cond.instantiable "java/lang/String" kk).before a0 Z = true) (E : Exa Z h a "java/lang/String") (F : Fld Z h a "java/lang/String" "value" "[B" .null) : Safe Z own_EL vm0 h a := by
  have hal : Z.vm.Alike vm0 := hZ.alike
  rintro ⟨pp, -, u, a', -, q, -, ⟨cS, ⟨⟨s1, s2, s3, ⟨cv, kv, iv, s4, s4'⟩, -, s6, s7, s8, s9, s10, s11, s12, -⟩, -, -⟩, -⟩, rfl | rfl⟩
  · obtain ⟨kv', z4⟩ := ff_back (U := Wst Z vm0 h) hal s4
    obtain ⟨cell, cf, k, i, f, f1, f2, -, -, -, -, f7⟩ := F
    cases f1.symm.trans s1
    have e4 := z4.symm.trans f2
    simp only [Option.some.injEq, Prod.mk.injEq] at e4
    rw [← e4.2.2.2, s8] at f7
    cases f7
  · obtain ⟨hst, k9, hk9, comp, hkind9⟩ := s11
    obtain ⟨cell, k, e1, e2, e3, -, -⟩ := E
    have e1' : (Wst Z vm0 h).heap[q.sd]? = some cell := e1
    cases e1'.symm.trans s10
    obtain ⟨k', z1, z2⟩ := hal.2.2 _ _ e3
    have hk9 : vm0.classes[q.SA.cls]? = some k9 := hk9
    cases hk9.symm.trans z1
    obtain ⟨c2, k2, i1, i2, i3, -⟩ := Cond.instantiable_spec wi
    cases e2.symm.trans i1
    cases e3.symm.trans i2
    rw [z2] at hkind9
    have : k.kind = .array comp .byte := hkind9
    rw [i3] at this
    cases this
end OwnWide
theorem own_Sta_keep0 {Z : State} {h h' : Heap} {C n d : String} {v : Value} (F : Sta Z h C n d v) (K : Keep h h' []) : Sta Z h' C n d v := by
  obtain ⟨cf, i, k, f, st, cell, h1, h2, h3, h4, h5, r⟩ := F
  exact ⟨cf, i, k, f, st, cell, h1, h2, h3, h4, K.2.1 _ _ h5 (fun q => nomatch q), r⟩
theorem own_Sta_keep1 {Z : State} {h h' : Heap} {C n d : String} {v : Value} {a : Addr} {C' : String} (F : Sta Z h C n d v) (K : Keep h h' [a]) (E : Exa Z h a C') : Sta Z h' C n d v := by
  obtain ⟨cf, i, k, f, st, cell, h1, h2, h3, h4, h5, h6, r⟩ := F
  obtain ⟨c2, k2, e1, -, -, e4, -⟩ := E
  refine ⟨cf, i, k, f, st, cell, h1, h2, h3, h4, K.2.1 _ _ h5 (fun q => ?_), h6, r⟩
  cases List.mem_singleton.mp q
  cases h5.symm.trans e1
  rw [h6] at e4
  cases e4
theorem own_wS {Z : State} {a0 : Array Value} (hw : ∀ d ∈ tables_1, d.before a0 Z = true) : ∀ d ∈ Bundle.stringAtoms, d.before a0 Z = true := by
  intro d hd
  simp only [Bundle.stringAtoms, List.mem_cons, List.not_mem_nil, or_false] at hd
  rcases hd with rfl | rfl | rfl | rfl | rfl | rfl | rfl
  · exact (hw _ (List.mem_of_getElem? (i := 9) rfl))
  · exact (hw _ (List.mem_of_getElem? (i := 8) rfl))
  · exact (hw _ (List.mem_of_getElem? (i := 26) rfl))
  · exact (hw _ (List.mem_of_getElem? (i := 36) rfl))
  · exact (hw _ (List.mem_of_getElem? (i := 34) rfl))
  · exact (hw _ (List.mem_of_getElem? (i := 77) rfl))
  · exact (hw _ (List.mem_of_getElem? (i := 78) rfl))
def own_b (x : Int32) : Int32 := x.toInt8.toInt32
/-- a compact String at r, its bytes us -/
def own_Str (Z : State) (h : Heap) (r : Addr) (us : List Int32) : Prop := Exa Z h r "java/lang/String" ∧ ∃ b, Fld Z h r "java/lang/String" "value" "[B" (.ref b) ∧ Fld Z h r "java/lang/String" "coder" "B" (.int 0) ∧ own_AV Z h b .byte (us.map Value.int)
def own_bs (n c0 c1 : Int32) : List Int32 := if n = 0 then [] else if n = 1 then [own_b c0] else [own_b c0, own_b c1]
def own_kind (w0 w1 w2 w3 w4 : Addr) (k : Int32) : Addr := if k = 0 then w0 else if k = 1 then w1 else if k = 2 then w2 else if k = 3 then w3 else w4
theorem d1_0 : decode method_3_code 0 = .ok (.iload_n 0, 1) := by decide +kernel
theorem d1_1 : decode method_3_code 1 = .ok (.iconst 3, 1) := by decide +kernel
theorem d1_2 : decode method_3_code 2 = .ok (.iand, 1) := by decide +kernel
theorem d1_3 : decode method_3_code 3 = .ok (.istore_n 1, 1) := by decide +kernel
theorem d1_4 : decode method_3_code 4 = .ok (.iload_n 1, 1) := by decide +kernel
theorem d1_5 : decode method_3_code 5 = .ok (.iconst 3, 1) := by decide +kernel
theorem d1_6 : decode method_3_code 6 = .ok (.if_icmp .ne 7, 3) := by decide +kernel
theorem d1_9 : decode method_3_code 9 = .ok (.iconst 2, 1) := by decide +kernel
theorem d1_10 : decode method_3_code 10 = .ok (.goto 4, 3) := by decide +kernel
theorem d1_13 : decode method_3_code 13 = .ok (.iload_n 1, 1) := by decide +kernel
theorem d1_14 : decode method_3_code 14 = .ok (.ireturn, 1) := by decide +kernel
def own_lenOf (x0 : Int32) : Int32 := (if (x0 &&& (3 : Int32)) = (3 : Int32) then (2 : Int32) else (x0 &&& (3 : Int32)))
set_option maxRecDepth 65536 in
set_option maxHeartbeats 40000000 in
theorem own_lenOf_con (l : Launch) (Z : State) (a0 : Array Value) (hw : ∀ d ∈ tables_1, d.before a0 Z = true) (x0 : Int32)  (h0 : Heap) (ws : List Jvm.Cond) :
    own_Con l Z (⟨"com/example/secure_model_views/securemodelviews/TokenIsPinLaw", "lenOf", "(I)I"⟩ : MethodName) method_3_code 2 (some .int) ({ frames := 0, cells := 0, slots := 0, locals := 0 } : Room) #[(.int x0)] h0 (own_PQ h0 (.int (own_lenOf x0))) ws := by
  refine own_con (F := fun m => (mkF m 0 #[.val (.int x0), .unset] [])) (own_pn (by first | (simp [plainName, overriddenIn]; done) | decide +kernel)) (fun m => by first | (simp [entryFrame, mkF, argsToLocals, Value.category]; done) | rfl) ?_
  intro p e s m below meth c T X hx hby hml hZ hown hnm hret hlk eT
  show own_Go p e below (own_Out s (own_PQ h0 (.int (own_lenOf x0))) 0 0) (T.setTop (mkF m 0 #[.val (.int x0), .unset] []))
  show own_Go p e below (own_Out s (own_PQ h0 (.int (if (x0 &&& (3 : Int32)) = (3 : Int32) then (2 : Int32) else (x0 &&& (3 : Int32))))) 0 0) _
  refine own_go (fun _ => XS.iloadN X.here hx rfl (hb hby d1_0) rfl) ?_
  show own_Go p e below _ (T.setTop (mkF m 1 #[.val (.int x0), .unset] [(.int x0)]))
  refine own_go (fun _ => XS.iconst X.here hx rfl (hb hby d1_1)) ?_
  show own_Go p e below _ (T.setTop (mkF m 2 #[.val (.int x0), .unset] [(.int (3 : Int32)), (.int x0)]))
  refine own_go (fun _ => XS.iand X.here hx rfl (hb hby d1_2) rfl) ?_
  show own_Go p e below _ (T.setTop (mkF m 3 #[.val (.int x0), .unset] [(.int (x0 &&& (3 : Int32)))]))
  refine own_go (fun _ => XS.istoreN X.here hx rfl (hb hby d1_3) rfl (l' := #[.val (.int x0), .val (.int (x0 &&& (3 : Int32)))]) rfl) ?_
  show own_Go p e below _ (T.setTop (mkF m 4 #[.val (.int x0), .val (.int (x0 &&& (3 : Int32)))] []))
  refine own_go (fun _ => XS.iloadN X.here hx rfl (hb hby d1_4) rfl) ?_
  show own_Go p e below _ (T.setTop (mkF m 5 #[.val (.int x0), .val (.int (x0 &&& (3 : Int32)))] [(.int (x0 &&& (3 : Int32)))]))
  refine own_go (fun _ => XS.iconst X.here hx rfl (hb hby d1_5)) ?_
  show own_Go p e below _ (T.setTop (mkF m 6 #[.val (.int x0), .val (.int (x0 &&& (3 : Int32)))] [(.int (3 : Int32)), (.int (x0 &&& (3 : Int32)))]))
  refine own_iteI (fun hc6 => ?_) (fun hc6 => ?_)
  · skip
    refine own_go (fun _ => XS.icmpNo X.here hx rfl (hb hby d1_6) rfl (XT.ii_ne_f hc6)) ?_
    show own_Go p e below _ (T.setTop (mkF m 9 #[.val (.int x0), .val (.int (x0 &&& (3 : Int32)))] []))
    refine own_go (fun _ => XS.iconst X.here hx rfl (hb hby d1_9)) ?_
    show own_Go p e below _ (T.setTop (mkF m 10 #[.val (.int x0), .val (.int (x0 &&& (3 : Int32)))] [(.int (2 : Int32))]))
    refine own_go (fun _ => XS.goto X.here hx rfl (pc0 := 10) (pc' := 14) rfl (hb hby d1_10) (by decide) (by decide)) ?_
    show own_Go p e below _ (T.setTop (mkF m 14 #[.val (.int x0), .val (.int (x0 &&& (3 : Int32)))] [(.int (2 : Int32))]))
    exact own_iret X hx hlk hret (Or.inl rfl) rfl (hb hby d1_14) (Nat.zero_le _) (Nat.zero_le _) ⟨rfl, eT, rfl⟩
  · skip
    refine own_go (fun _ => XS.icmpYes X.here hx rfl (pc0 := 6) (pc' := 13) rfl (hb hby d1_6) rfl (XT.ii_ne_t hc6) (by decide) (by decide)) ?_
    show own_Go p e below _ (T.setTop (mkF m 13 #[.val (.int x0), .val (.int (x0 &&& (3 : Int32)))] []))
    refine own_go (fun _ => XS.iloadN X.here hx rfl (hb hby d1_13) rfl) ?_
    show own_Go p e below _ (T.setTop (mkF m 14 #[.val (.int x0), .val (.int (x0 &&& (3 : Int32)))] [(.int (x0 &&& (3 : Int32)))]))
    exact own_iret X hx hlk hret (Or.inl rfl) rfl (hb hby d1_14) (Nat.zero_le _) (Nat.zero_le _) ⟨rfl, eT, rfl⟩
theorem d9_0 : decode method_2_code 0 = .ok (.iload_n 0, 1) := by decide +kernel
theorem d9_1 : decode method_2_code 1 = .ok (.ifCond .ne 7, 3) := by decide +kernel
theorem d9_4 : decode method_2_code 4 = .ok (.getstatic 7, 3) := by decide +kernel
theorem d9_7 : decode method_2_code 7 = .ok (.areturn, 1) := by decide +kernel
theorem d9_8 : decode method_2_code 8 = .ok (.iload_n 0, 1) := by decide +kernel
theorem d9_9 : decode method_2_code 9 = .ok (.iconst 1, 1) := by decide +kernel
theorem d9_10 : decode method_2_code 10 = .ok (.if_icmp .ne 7, 3) := by decide +kernel
theorem d9_13 : decode method_2_code 13 = .ok (.getstatic 13, 3) := by decide +kernel
theorem d9_16 : decode method_2_code 16 = .ok (.areturn, 1) := by decide +kernel
theorem d9_17 : decode method_2_code 17 = .ok (.iload_n 0, 1) := by decide +kernel
theorem d9_18 : decode method_2_code 18 = .ok (.iconst 2, 1) := by decide +kernel
theorem d9_19 : decode method_2_code 19 = .ok (.if_icmp .ne 7, 3) := by decide +kernel
theorem d9_22 : decode method_2_code 22 = .ok (.getstatic 16, 3) := by decide +kernel
theorem d9_25 : decode method_2_code 25 = .ok (.areturn, 1) := by decide +kernel
theorem d9_26 : decode method_2_code 26 = .ok (.iload_n 0, 1) := by decide +kernel
theorem d9_27 : decode method_2_code 27 = .ok (.iconst 3, 1) := by decide +kernel
theorem d9_28 : decode method_2_code 28 = .ok (.if_icmp .ne 7, 3) := by decide +kernel
theorem d9_31 : decode method_2_code 31 = .ok (.getstatic 19, 3) := by decide +kernel
theorem d9_34 : decode method_2_code 34 = .ok (.areturn, 1) := by decide +kernel
theorem d9_35 : decode method_2_code 35 = .ok (.getstatic 22, 3) := by decide +kernel
theorem d9_38 : decode method_2_code 38 = .ok (.areturn, 1) := by decide +kernel
set_option maxRecDepth 65536 in
set_option maxHeartbeats 40000000 in
theorem own_kindOf_con (l : Launch) (Z : State) (a0 : Array Value) (hw : ∀ d ∈ tables_1, d.before a0 Z = true) (k : Int32) (w0 w1 w2 w3 w4 : Addr) (h0 : Heap) (k0_S0 : Sta Z h0 "com/example/secure_model_views/securemodelviews/PolicyTokens$Kind" "WORD" "Lcom/example/secure_model_views/securemodelviews/PolicyTokens$Kind;" (.ref w0)) (k1_S0 : Sta Z h0 "com/example/secure_model_views/securemodelviews/PolicyTokens$Kind" "STRING" "Lcom/example/secure_model_views/securemodelviews/PolicyTokens$Kind;" (.ref w1)) (k2_S0 : Sta Z h0 "com/example/secure_model_views/securemodelviews/PolicyTokens$Kind" "INTEGER" "Lcom/example/secure_model_views/securemodelviews/PolicyTokens$Kind;" (.ref w2)) (k3_S0 : Sta Z h0 "com/example/secure_model_views/securemodelviews/PolicyTokens$Kind" "SYMBOL" "Lcom/example/secure_model_views/securemodelviews/PolicyTokens$Kind;" (.ref w3)) (k4_S0 : Sta Z h0 "com/example/secure_model_views/securemodelviews/PolicyTokens$Kind" "END" "Lcom/example/secure_model_views/securemodelviews/PolicyTokens$Kind;" (.ref w4)) (ws : List Jvm.Cond) :
    own_Con l Z (⟨"com/example/secure_model_views/securemodelviews/TokenIsPinLaw", "kindOf", "(I)Lcom/example/secure_model_views/securemodelviews/PolicyTokens$Kind;"⟩ : MethodName) method_2_code 1 (some (.object "com/example/secure_model_views/securemodelviews/PolicyTokens$Kind")) ({ frames := 0, cells := 0, slots := 0, locals := 0 } : Room) #[(.int k)] h0 (own_PQ h0 (.ref (own_kind w0 w1 w2 w3 w4 k))) ws := by
  refine own_con (F := fun m => (mkF m 0 #[.val (.int k)] [])) (own_pn (by first | (simp [plainName, overriddenIn]; done) | decide +kernel)) (fun m => by first | (simp [entryFrame, mkF, argsToLocals, Value.category]; done) | rfl) ?_
  intro p e s m below meth c T X hx hby hml hZ hown hnm hret hlk eT
  show own_Go p e below (own_Out s (own_PQ h0 (.ref (own_kind w0 w1 w2 w3 w4 k))) ({ frames := 0, cells := 0, slots := 0, locals := 0 } : Room).cells ({ frames := 0, cells := 0, slots := 0, locals := 0 } : Room).slots) (T.setTop (mkF m 0 #[.val (.int k)] []))
  refine own_go (fun _ => XS.iloadN X.here hx rfl (hb hby d9_0) rfl) ?_
  show own_Go p e below _ (T.setTop (mkF m 1 #[.val (.int k)] [(.int k)]))
  by_cases c0 : k = 0
  · skip
    refine own_go (fun _ => XS.ifNo X.here hx rfl (hb hby d9_1) rfl (XT.i0_ne_f c0)) ?_
    show own_Go p e below _ (T.setTop (mkF m 4 #[.val (.int k)] []))
    obtain ⟨T1, X1, e1, st1⟩ := getS2 X hx hZ hown (host := "") (Or.inl (hw _ (List.mem_of_getElem? (i := 40) rfl))) Via.refl eT k0_S0 (g := (mkF m 4 #[.val (.int k)] [])) rfl (hb hby d9_4)
    refine own_go st1 ?_
    show own_Go p e below _ (T1.setTop (mkF m 7 #[.val (.int k)] [(.ref w0)]))
    exact own_aret X1 hx hlk hret rfl rfl (hb hby d9_7) (by decide) (by decide) ⟨by rw [own_kind, if_pos c0], e1, rfl⟩
  · skip
    refine own_go (fun _ => XS.ifYes X.here hx rfl (pc0 := 1) (pc' := 8) rfl (hb hby d9_1) rfl (XT.i0_ne_t c0) (by decide) (by decide)) ?_
    show own_Go p e below _ (T.setTop (mkF m 8 #[.val (.int k)] []))
    refine own_go (fun _ => XS.iloadN X.here hx rfl (hb hby d9_8) rfl) ?_
    show own_Go p e below _ (T.setTop (mkF m 9 #[.val (.int k)] [(.int k)]))
    refine own_go (fun _ => XS.iconst X.here hx rfl (hb hby d9_9)) ?_
    show own_Go p e below _ (T.setTop (mkF m 10 #[.val (.int k)] [(.int (1 : Int32)), (.int k)]))
    by_cases c1 : k = 1
    · skip
      refine own_go (fun _ => XS.icmpNo X.here hx rfl (hb hby d9_10) rfl (XT.ii_ne_f c1)) ?_
      show own_Go p e below _ (T.setTop (mkF m 13 #[.val (.int k)] []))
      obtain ⟨T2, X2, e2, st2⟩ := getS2 X hx hZ hown (host := "") (Or.inl (hw _ (List.mem_of_getElem? (i := 83) rfl))) Via.refl eT k1_S0 (g := (mkF m 13 #[.val (.int k)] [])) rfl (hb hby d9_13)
      refine own_go st2 ?_
      show own_Go p e below _ (T2.setTop (mkF m 16 #[.val (.int k)] [(.ref w1)]))
      exact own_aret X2 hx hlk hret rfl rfl (hb hby d9_16) (by decide) (by decide) ⟨by rw [own_kind, if_neg c0, if_pos c1], e2, rfl⟩
    · skip
      refine own_go (fun _ => XS.icmpYes X.here hx rfl (pc0 := 10) (pc' := 17) rfl (hb hby d9_10) rfl (XT.ii_ne_t c1) (by decide) (by decide)) ?_
      show own_Go p e below _ (T.setTop (mkF m 17 #[.val (.int k)] []))
      refine own_go (fun _ => XS.iloadN X.here hx rfl (hb hby d9_17) rfl) ?_
      show own_Go p e below _ (T.setTop (mkF m 18 #[.val (.int k)] [(.int k)]))
      refine own_go (fun _ => XS.iconst X.here hx rfl (hb hby d9_18)) ?_
      show own_Go p e below _ (T.setTop (mkF m 19 #[.val (.int k)] [(.int (2 : Int32)), (.int k)]))
      by_cases c2 : k = 2
      · skip
        refine own_go (fun _ => XS.icmpNo X.here hx rfl (hb hby d9_19) rfl (XT.ii_ne_f c2)) ?_
        show own_Go p e below _ (T.setTop (mkF m 22 #[.val (.int k)] []))
        obtain ⟨T3, X3, e3, st3⟩ := getS2 X hx hZ hown (host := "") (Or.inl (hw _ (List.mem_of_getElem? (i := 79) rfl))) Via.refl eT k2_S0 (g := (mkF m 22 #[.val (.int k)] [])) rfl (hb hby d9_22)
        refine own_go st3 ?_
        show own_Go p e below _ (T3.setTop (mkF m 25 #[.val (.int k)] [(.ref w2)]))
        exact own_aret X3 hx hlk hret rfl rfl (hb hby d9_25) (by decide) (by decide) ⟨by rw [own_kind, if_neg c0, if_neg c1, if_pos c2], e3, rfl⟩
      · skip
        refine own_go (fun _ => XS.icmpYes X.here hx rfl (pc0 := 19) (pc' := 26) rfl (hb hby d9_19) rfl (XT.ii_ne_t c2) (by decide) (by decide)) ?_
        show own_Go p e below _ (T.setTop (mkF m 26 #[.val (.int k)] []))
        refine own_go (fun _ => XS.iloadN X.here hx rfl (hb hby d9_26) rfl) ?_
        show own_Go p e below _ (T.setTop (mkF m 27 #[.val (.int k)] [(.int k)]))
        refine own_go (fun _ => XS.iconst X.here hx rfl (hb hby d9_27)) ?_
        show own_Go p e below _ (T.setTop (mkF m 28 #[.val (.int k)] [(.int (3 : Int32)), (.int k)]))
        by_cases c3 : k = 3
        · skip
          refine own_go (fun _ => XS.icmpNo X.here hx rfl (hb hby d9_28) rfl (XT.ii_ne_f c3)) ?_
          show own_Go p e below _ (T.setTop (mkF m 31 #[.val (.int k)] []))
          obtain ⟨T4, X4, e4, st4⟩ := getS2 X hx hZ hown (host := "") (Or.inl (hw _ (List.mem_of_getElem? (i := 85) rfl))) Via.refl eT k3_S0 (g := (mkF m 31 #[.val (.int k)] [])) rfl (hb hby d9_31)
          refine own_go st4 ?_
          show own_Go p e below _ (T4.setTop (mkF m 34 #[.val (.int k)] [(.ref w3)]))
          exact own_aret X4 hx hlk hret rfl rfl (hb hby d9_34) (by decide) (by decide) ⟨by rw [own_kind, if_neg c0, if_neg c1, if_neg c2, if_pos c3], e4, rfl⟩
        · skip
          refine own_go (fun _ => XS.icmpYes X.here hx rfl (pc0 := 28) (pc' := 35) rfl (hb hby d9_28) rfl (XT.ii_ne_t c3) (by decide) (by decide)) ?_
          show own_Go p e below _ (T.setTop (mkF m 35 #[.val (.int k)] []))
          obtain ⟨T5, X5, e5, st5⟩ := getS2 X hx hZ hown (host := "") (Or.inl (hw _ (List.mem_of_getElem? (i := 81) rfl))) Via.refl eT k4_S0 (g := (mkF m 35 #[.val (.int k)] [])) rfl (hb hby d9_35)
          refine own_go st5 ?_
          show own_Go p e below _ (T5.setTop (mkF m 38 #[.val (.int k)] [(.ref w4)]))
          exact own_aret X5 hx hlk hret rfl rfl (hb hby d9_38) (by decide) (by decide) ⟨by rw [own_kind, if_neg c0, if_neg c1, if_neg c2, if_neg c3], e5, rfl⟩
theorem d11_0 : decode jdk_30_method_1_code 0 = .ok (.aload_n 0, 1) := by decide +kernel
theorem d11_1 : decode jdk_30_method_1_code 1 = .ok (.invokespecial 1, 3) := by decide +kernel
theorem d11_4 : decode jdk_30_method_1_code 4 = .ok (.return_, 1) := by decide +kernel
set_option maxRecDepth 65536 in
set_option maxHeartbeats 40000000 in
theorem own_rec_con (l : Launch) (Z : State) (a0 : Array Value) (hw : ∀ d ∈ tables_1, d.before a0 Z = true) (a : Addr) (h0 : Heap)  (ws : List Jvm.Cond) :
    own_Con l Z (⟨"java/lang/Record", "<init>", "()V"⟩ : MethodName) jdk_30_method_1_code 1 none ({ frames := 1, cells := 0, slots := 0, locals := 30 } : Room) #[(.ref a)] h0 (fun v h L => v = none ∧ h = h0 ∧ L = []) ws := by
  refine own_con (F := fun m => (mkF m 0 #[.val (.ref a)] [])) (own_pn (by first | (simp [plainName, overriddenIn]; done) | decide +kernel)) (fun m => by first | (simp [entryFrame, mkF, argsToLocals, Value.category]; done) | rfl) ?_
  intro p e s m below meth c T X hx hby hml hZ hown hnm hret hlk eT
  show own_Go p e below (own_Out s (fun v h L => v = none ∧ h = h0 ∧ L = []) ({ frames := 1, cells := 0, slots := 0, locals := 30 } : Room).cells ({ frames := 1, cells := 0, slots := 0, locals := 30 } : Room).slots) (T.setTop (mkF m 0 #[.val (.ref a)] []))
  refine own_go (fun _ => XS.aloadN X.here hx rfl (hb hby d11_0) rfl rfl) ?_
  show own_Go p e below _ (T.setTop (mkF m 1 #[.val (.ref a)] [(.ref a)]))
  obtain ⟨T1, X1, e1, st1⟩ := initO X hx hZ hown (hw _ (List.mem_of_getElem? (i := 54) rfl)) (hw _ (List.mem_of_getElem? (i := 19) rfl)) (hw _ (List.mem_of_getElem? (i := 20) rfl)) eT (g := (mkF m 1 #[.val (.ref a)] [(.ref a)])) rfl (by rw [hml]; rfl) rfl (hb hby d11_1) (by decide) (W := 0) (by show 2 * 0 + _ ≤ _; exact Nat.le_of_eq rfl) (by decide)
  refine own_go st1 ?_
  show own_Go p e below _ (T1.setTop (mkF m 4 #[.val (.ref a)] []))
  exact own_vret X1 hx hlk hret (hb hby d11_4) (by decide) (by decide) ⟨rfl, e1, rfl⟩
theorem d10_0 : decode prog_10_method_1_code 0 = .ok (.aload_n 0, 1) := by decide +kernel
theorem d10_1 : decode prog_10_method_1_code 1 = .ok (.invokespecial 1, 3) := by decide +kernel
theorem d10_4 : decode prog_10_method_1_code 4 = .ok (.aload_n 0, 1) := by decide +kernel
theorem d10_5 : decode prog_10_method_1_code 5 = .ok (.aload_n 1, 1) := by decide +kernel
theorem d10_6 : decode prog_10_method_1_code 6 = .ok (.putfield 7, 3) := by decide +kernel
theorem d10_9 : decode prog_10_method_1_code 9 = .ok (.aload_n 0, 1) := by decide +kernel
theorem d10_10 : decode prog_10_method_1_code 10 = .ok (.aload_n 2, 1) := by decide +kernel
theorem d10_11 : decode prog_10_method_1_code 11 = .ok (.putfield 13, 3) := by decide +kernel
theorem d10_14 : decode prog_10_method_1_code 14 = .ok (.aload_n 0, 1) := by decide +kernel
theorem d10_15 : decode prog_10_method_1_code 15 = .ok (.iload_n 3, 1) := by decide +kernel
theorem d10_16 : decode prog_10_method_1_code 16 = .ok (.putfield 17, 3) := by decide +kernel
theorem d10_19 : decode prog_10_method_1_code 19 = .ok (.return_, 1) := by decide +kernel
set_option maxRecDepth 65536 in
set_option maxHeartbeats 40000000 in
theorem own_tok_con (l : Launch) (Z : State) (a0 : Array Value) (hw : ∀ d ∈ tables_1, d.before a0 Z = true) (a kd tx : Addr) (ln : Int32) (n0 : Nat) (h0 : Heap) (o_E0 : Exa Z h0 a "com/example/secure_model_views/securemodelviews/PolicyTokens$Token") (o_kind0 : Fld Z h0 a "com/example/secure_model_views/securemodelviews/PolicyTokens$Token" "kind" "Lcom/example/secure_model_views/securemodelviews/PolicyTokens$Kind;" .null) (o_text0 : Fld Z h0 a "com/example/secure_model_views/securemodelviews/PolicyTokens$Token" "text" "Ljava/lang/String;" .null) (o_line0 : Fld Z h0 a "com/example/secure_model_views/securemodelviews/PolicyTokens$Token" "line" "I" (.int (0 : Int32))) (ga : n0 ≤ a) (ws : List Jvm.Cond) :
    own_Con l Z (⟨"com/example/secure_model_views/securemodelviews/PolicyTokens$Token", "<init>", "(Lcom/example/secure_model_views/securemodelviews/PolicyTokens$Kind;Ljava/lang/String;I)V"⟩ : MethodName) prog_10_method_1_code 4 none ({ frames := 2, cells := 0, slots := 0, locals := 60 } : Room) #[(.ref a), (.ref kd), (.ref tx), (.int ln)] h0 (fun v h L => v = none ∧ Fr n0 L ∧ Keep h0 h [a] ∧ Fld Z h a "com/example/secure_model_views/securemodelviews/PolicyTokens$Token" "kind" "Lcom/example/secure_model_views/securemodelviews/PolicyTokens$Kind;" (.ref kd) ∧ Fld Z h a "com/example/secure_model_views/securemodelviews/PolicyTokens$Token" "text" "Ljava/lang/String;" (.ref tx)) ws := by
  refine own_con (F := fun m => (mkF m 0 #[.val (.ref a), .val (.ref kd), .val (.ref tx), .val (.int ln)] [])) (own_pn (by first | (simp [plainName, overriddenIn]; done) | decide +kernel)) (fun m => by first | (simp [entryFrame, mkF, argsToLocals, Value.category]; done) | rfl) ?_
  intro p e s m below meth c T X hx hby hml hZ hown hnm hret hlk eT
  show own_Go p e below (own_Out s (fun v h L => v = none ∧ Fr n0 L ∧ Keep h0 h [a] ∧ Fld Z h a "com/example/secure_model_views/securemodelviews/PolicyTokens$Token" "kind" "Lcom/example/secure_model_views/securemodelviews/PolicyTokens$Kind;" (.ref kd) ∧ Fld Z h a "com/example/secure_model_views/securemodelviews/PolicyTokens$Token" "text" "Ljava/lang/String;" (.ref tx)) ({ frames := 2, cells := 0, slots := 0, locals := 60 } : Room).cells ({ frames := 2, cells := 0, slots := 0, locals := 60 } : Room).slots) (T.setTop (mkF m 0 #[.val (.ref a), .val (.ref kd), .val (.ref tx), .val (.int ln)] []))
  have N0 := Fr.nil n0
  have K0 := Keep.refl h0 [a]
  refine own_go (fun _ => XS.aloadN X.here hx rfl (hb hby d10_0) rfl rfl) ?_
  show own_Go p e below _ (T.setTop (mkF m 1 #[.val (.ref a), .val (.ref kd), .val (.ref tx), .val (.int ln)] [(.ref a)]))
  obtain ⟨_, T1, L1, X1, ⟨rfl, eh1, rfl⟩, st1⟩ := own_callI X hx hZ hown rfl (argsL := []) (rest := []) (own_rec_con l Z a0 hw a h0 []) eT (hw _ (List.mem_of_getElem? (i := 49) rfl)) (hw _ (List.mem_of_getElem? (i := 50) rfl)) (hw _ (List.mem_of_getElem? (i := 52) rfl)) (hw _ (List.mem_of_getElem? (i := 53) rfl)) (by decide) (by decide +kernel : parseMethodDescriptor "()V" = some ⟨[], none⟩) rfl (g := (mkF m 1 #[.val (.ref a), .val (.ref kd), .val (.ref tx), .val (.int ln)] [(.ref a)])) rfl (by rw [hml]; rfl) rfl 0 (by show 2 * 0 + _ ≤ _; exact Nat.le_of_eq rfl) (hb hby d10_1) (by decide) (by decide) (by decide) (by decide)
  rw [List.append_nil] at X1
  refine own_go st1 ?_
  show own_Go p e below _ (T1.setTop (mkF m 4 #[.val (.ref a), .val (.ref kd), .val (.ref tx), .val (.int ln)] []))
  refine own_go (fun _ => XS.aloadN X1.here hx rfl (hb hby d10_4) rfl rfl) ?_
  show own_Go p e below _ (T1.setTop (mkF m 5 #[.val (.ref a), .val (.ref kd), .val (.ref tx), .val (.int ln)] [(.ref a)]))
  refine own_go (fun _ => XS.aloadN X1.here hx rfl (hb hby d10_5) rfl rfl) ?_
  show own_Go p e below _ (T1.setTop (mkF m 6 #[.val (.ref a), .val (.ref kd), .val (.ref tx), .val (.int ln)] [(.ref kd), (.ref a)]))
  obtain ⟨T2, h2, X2, e2, W2, st2⟩ := putF X1 hx hZ hown (host := "") (Or.inl (hw _ (List.mem_of_getElem? (i := 55) rfl))) Via.refl eh1 o_kind0 o_E0 (Or.inr ⟨(hw _ (List.mem_of_getElem? (i := 56) rfl)), rfl, hnm⟩) (hw _ (List.mem_of_getElem? (i := 44) rfl)) (ty := (.object "com/example/secure_model_views/securemodelviews/PolicyTokens$Kind")) (by decide) rfl rfl (g := (mkF m 6 #[.val (.ref a), .val (.ref kd), .val (.ref tx), .val (.int ln)] [(.ref kd), (.ref a)])) rfl rfl (hb hby d10_6)
  have N2 := Fr.snoc X2 N0 ga
  have o_E_2 := o_E0.wr W2
  have o_kind_2 := o_kind0.same W2
  have o_text_2 := o_text0.other W2 (Or.inr (slot_ne (t := (.object "java/lang/String")) (t' := (.object "com/example/secure_model_views/securemodelviews/PolicyTokens$Kind")) (Or.inr (hw _ (List.mem_of_getElem? (i := 58) rfl))) (Or.inr (hw _ (List.mem_of_getElem? (i := 56) rfl))) (by decide) (by decide) (by decide)))
  have o_line_2 := o_line0.other W2 (Or.inr (slot_ne (t := .int) (t' := (.object "com/example/secure_model_views/securemodelviews/PolicyTokens$Kind")) (Or.inr (hw _ (List.mem_of_getElem? (i := 60) rfl))) (Or.inr (hw _ (List.mem_of_getElem? (i := 56) rfl))) (by decide) (by decide) (by decide)))
  have K2 := K0.wr W2 (Or.inl (List.mem_of_getElem? (i := 0) rfl))
  refine own_go st2 ?_
  show own_Go p e below _ (T2.setTop (mkF m 9 #[.val (.ref a), .val (.ref kd), .val (.ref tx), .val (.int ln)] []))
  refine own_go (fun _ => XS.aloadN X2.here hx rfl (hb hby d10_9) rfl rfl) ?_
  show own_Go p e below _ (T2.setTop (mkF m 10 #[.val (.ref a), .val (.ref kd), .val (.ref tx), .val (.int ln)] [(.ref a)]))
  refine own_go (fun _ => XS.aloadN X2.here hx rfl (hb hby d10_10) rfl rfl) ?_
  show own_Go p e below _ (T2.setTop (mkF m 11 #[.val (.ref a), .val (.ref kd), .val (.ref tx), .val (.int ln)] [(.ref tx), (.ref a)]))
  obtain ⟨T3, h3, X3, e3, W3, st3⟩ := putF X2 hx hZ hown (host := "") (Or.inl (hw _ (List.mem_of_getElem? (i := 57) rfl))) Via.refl e2 o_text_2 o_E_2 (Or.inr ⟨(hw _ (List.mem_of_getElem? (i := 58) rfl)), rfl, hnm⟩) (hw _ (List.mem_of_getElem? (i := 44) rfl)) (ty := (.object "java/lang/String")) (by decide) rfl rfl (g := (mkF m 11 #[.val (.ref a), .val (.ref kd), .val (.ref tx), .val (.int ln)] [(.ref tx), (.ref a)])) rfl rfl (hb hby d10_11)
  have N3 := Fr.snoc X3 N2 ga
  have o_E_3 := o_E_2.wr W3
  have o_kind_3 := o_kind_2.other W3 (Or.inr (slot_ne (t := (.object "com/example/secure_model_views/securemodelviews/PolicyTokens$Kind")) (t' := (.object "java/lang/String")) (Or.inr (hw _ (List.mem_of_getElem? (i := 56) rfl))) (Or.inr (hw _ (List.mem_of_getElem? (i := 58) rfl))) (by decide) (by decide) (by decide)))
  have o_text_3 := o_text_2.same W3
  have o_line_3 := o_line_2.other W3 (Or.inr (slot_ne (t := .int) (t' := (.object "java/lang/String")) (Or.inr (hw _ (List.mem_of_getElem? (i := 60) rfl))) (Or.inr (hw _ (List.mem_of_getElem? (i := 58) rfl))) (by decide) (by decide) (by decide)))
  have K3 := K2.wr W3 (Or.inl (List.mem_of_getElem? (i := 0) rfl))
  refine own_go st3 ?_
  show own_Go p e below _ (T3.setTop (mkF m 14 #[.val (.ref a), .val (.ref kd), .val (.ref tx), .val (.int ln)] []))
  refine own_go (fun _ => XS.aloadN X3.here hx rfl (hb hby d10_14) rfl rfl) ?_
  show own_Go p e below _ (T3.setTop (mkF m 15 #[.val (.ref a), .val (.ref kd), .val (.ref tx), .val (.int ln)] [(.ref a)]))
  refine own_go (fun _ => XS.iloadN X3.here hx rfl (hb hby d10_15) rfl) ?_
  show own_Go p e below _ (T3.setTop (mkF m 16 #[.val (.ref a), .val (.ref kd), .val (.ref tx), .val (.int ln)] [(.int ln), (.ref a)]))
  obtain ⟨T4, h4, X4, e4, W4, st4⟩ := putF X3 hx hZ hown (host := "") (Or.inl (hw _ (List.mem_of_getElem? (i := 59) rfl))) Via.refl e3 o_line_3 o_E_3 (Or.inr ⟨(hw _ (List.mem_of_getElem? (i := 60) rfl)), rfl, hnm⟩) (hw _ (List.mem_of_getElem? (i := 44) rfl)) (ty := .int) (by decide) rfl rfl (g := (mkF m 16 #[.val (.ref a), .val (.ref kd), .val (.ref tx), .val (.int ln)] [(.int ln), (.ref a)])) rfl rfl (hb hby d10_16)
  have N4 := Fr.snoc X4 N3 ga
  have o_E_4 := o_E_3.wr W4
  have o_kind_4 := o_kind_3.other W4 (Or.inr (slot_ne (t := (.object "com/example/secure_model_views/securemodelviews/PolicyTokens$Kind")) (t' := .int) (Or.inr (hw _ (List.mem_of_getElem? (i := 56) rfl))) (Or.inr (hw _ (List.mem_of_getElem? (i := 60) rfl))) (by decide) (by decide) (by decide)))
  have o_text_4 := o_text_3.other W4 (Or.inr (slot_ne (t := (.object "java/lang/String")) (t' := .int) (Or.inr (hw _ (List.mem_of_getElem? (i := 58) rfl))) (Or.inr (hw _ (List.mem_of_getElem? (i := 60) rfl))) (by decide) (by decide) (by decide)))
  have o_line_4 := o_line_3.same W4
  have K4 := K3.wr W4 (Or.inl (List.mem_of_getElem? (i := 0) rfl))
  refine own_go st4 ?_
  show own_Go p e below _ (T4.setTop (mkF m 19 #[.val (.ref a), .val (.ref kd), .val (.ref tx), .val (.int ln)] []))
  exact own_vret X4 hx hlk hret (hb hby d10_19) (by decide) (by decide) (by rw [e4]; exact ⟨rfl, N4, K4, o_kind_4, o_text_4⟩)
theorem d8_0 : decode jdk_52_method_15_code 0 = .ok (.iload_n 1, 1) := by decide +kernel
theorem d8_1 : decode jdk_52_method_15_code 1 = .ok (.aload_n 0, 1) := by decide +kernel
theorem d8_2 : decode jdk_52_method_15_code 2 = .ok (.arraylength, 1) := by decide +kernel
theorem d8_3 : decode jdk_52_method_15_code 3 = .ok (.isub, 1) := by decide +kernel
theorem d8_4 : decode jdk_52_method_15_code 4 = .ok (.bipush 31, 2) := by decide +kernel
theorem d8_6 : decode jdk_52_method_15_code 6 = .ok (.iushr, 1) := by decide +kernel
theorem d8_7 : decode jdk_52_method_15_code 7 = .ok (.i2b, 1) := by decide +kernel
theorem d8_8 : decode jdk_52_method_15_code 8 = .ok (.ireturn, 1) := by decide +kernel
set_option maxRecDepth 65536 in
set_option maxHeartbeats 40000000 in
theorem own_coder_con (l : Launch) (Z : State) (a0 : Array Value) (hw : ∀ d ∈ tables_1, d.before a0 Z = true) (b : Addr) (n : Int32) (vs : List Value) (h0 : Heap) (r_A0 : own_AV Z h0 b .byte vs) (hn : n.toInt = vs.length) (ws : List Jvm.Cond) :
    own_Con l Z (⟨"java/lang/StringUTF16", "coderFromArrayLen", "([BI)B"⟩ : MethodName) jdk_52_method_15_code 2 (some .byte) ({ frames := 0, cells := 0, slots := 0, locals := 0 } : Room) #[(.ref b), (.int n)] h0 (own_PQ h0 (.int (0 : Int32))) ws := by
  refine own_con (F := fun m => (mkF m 0 #[.val (.ref b), .val (.int n)] [])) (own_pn (by first | (simp [plainName, overriddenIn]; done) | decide +kernel)) (fun m => by first | (simp [entryFrame, mkF, argsToLocals, Value.category]; done) | rfl) ?_
  intro p e s m below meth c T X hx hby hml hZ hown hnm hret hlk eT
  show own_Go p e below (own_Out s (own_PQ h0 (.int (0 : Int32))) ({ frames := 0, cells := 0, slots := 0, locals := 0 } : Room).cells ({ frames := 0, cells := 0, slots := 0, locals := 0 } : Room).slots) (T.setTop (mkF m 0 #[.val (.ref b), .val (.int n)] []))
  refine own_go (fun _ => XS.iloadN X.here hx rfl (hb hby d8_0) rfl) ?_
  show own_Go p e below _ (T.setTop (mkF m 1 #[.val (.ref b), .val (.int n)] [(.int n)]))
  refine own_go (fun _ => XS.aloadN X.here hx rfl (hb hby d8_1) rfl rfl) ?_
  show own_Go p e below _ (T.setTop (mkF m 2 #[.val (.ref b), .val (.int n)] [(.ref b), (.int n)]))
  refine own_go (own_len X hx hZ eT r_A0 (g := (mkF m 2 #[.val (.ref b), .val (.int n)] [(.ref b), (.int n)])) rfl rfl (hb hby d8_2) n hn) ?_
  show own_Go p e below _ (T.setTop (mkF m 3 #[.val (.ref b), .val (.int n)] [(.int n), (.int n)]))
  refine own_go (fun _ => XS.isub X.here hx rfl (hb hby d8_3) rfl) ?_
  show own_Go p e below _ (T.setTop (mkF m 4 #[.val (.ref b), .val (.int n)] [(.int (n - n))]))
  refine own_go (fun _ => XS.bipush X.here hx rfl (hb hby d8_4)) ?_
  show own_Go p e below _ (T.setTop (mkF m 6 #[.val (.ref b), .val (.int n)] [(.int (31 : Int32)), (.int (n - n))]))
  refine own_go (fun _ => XT.iushr X.here hx rfl (hb hby d8_6) rfl) ?_
  show own_Go p e below _ (T.setTop (mkF m 7 #[.val (.ref b), .val (.int n)] [(.int (XT.ushr (n - n) (31 : Int32)))]))
  refine own_go (fun _ => XT.i2b X.here hx rfl (hb hby d8_7) rfl) ?_
  show own_Go p e below _ (T.setTop (mkF m 8 #[.val (.ref b), .val (.int n)] [(.int ((XT.ushr (n - n) (31 : Int32)).toInt8.toInt32))]))
  show own_Go p e below _ (T.setTop (mkF m 8 #[.val (.ref b), .val (.int n)] [(.int ((XT.ushr (n - n) (31 : Int32)).toInt8.toInt32))]))
  rw [show ((XT.ushr (n - n) (31 : Int32)).toInt8.toInt32) = (0 : Int32) from by rw [Int32.sub_self]; rfl]
  show own_Go p e below _ (T.setTop (mkF m 8 #[.val (.ref b), .val (.int n)] [(.int (0 : Int32))]))
  exact own_iret X hx hlk hret (Or.inr (Or.inr (Or.inl rfl))) rfl (hb hby d8_8) (by decide) (by decide) ⟨rfl, eT, rfl⟩
theorem d7_0 : decode jdk_52_method_21_code 0 = .ok (.iconst 0, 1) := by decide +kernel
theorem d7_1 : decode jdk_52_method_21_code 1 = .ok (.istore 5, 2) := by decide +kernel
theorem d7_3 : decode jdk_52_method_21_code 3 = .ok (.iload 5, 2) := by decide +kernel
theorem d7_5 : decode jdk_52_method_21_code 5 = .ok (.iload 4, 2) := by decide +kernel
theorem d7_7 : decode jdk_52_method_21_code 7 = .ok (.if_icmp .ge 37, 3) := by decide +kernel
theorem d7_10 : decode jdk_52_method_21_code 10 = .ok (.aload_n 0, 1) := by decide +kernel
theorem d7_11 : decode jdk_52_method_21_code 11 = .ok (.iload_n 1, 1) := by decide +kernel
theorem d7_12 : decode jdk_52_method_21_code 12 = .ok (.caload, 1) := by decide +kernel
theorem d7_13 : decode jdk_52_method_21_code 13 = .ok (.istore 6, 2) := by decide +kernel
theorem d7_15 : decode jdk_52_method_21_code 15 = .ok (.iload 6, 2) := by decide +kernel
theorem d7_17 : decode jdk_52_method_21_code 17 = .ok (.sipush 255, 3) := by decide +kernel
theorem d7_20 : decode jdk_52_method_21_code 20 = .ok (.if_icmp .le 6, 3) := by decide +kernel
theorem d7_26 : decode jdk_52_method_21_code 26 = .ok (.aload_n 2, 1) := by decide +kernel
theorem d7_27 : decode jdk_52_method_21_code 27 = .ok (.iload_n 3, 1) := by decide +kernel
theorem d7_28 : decode jdk_52_method_21_code 28 = .ok (.iload 6, 2) := by decide +kernel
theorem d7_30 : decode jdk_52_method_21_code 30 = .ok (.i2b, 1) := by decide +kernel
theorem d7_31 : decode jdk_52_method_21_code 31 = .ok (.bastore, 1) := by decide +kernel
theorem d7_32 : decode jdk_52_method_21_code 32 = .ok (.iinc 1 1, 3) := by decide +kernel
theorem d7_35 : decode jdk_52_method_21_code 35 = .ok (.iinc 3 1, 3) := by decide +kernel
theorem d7_38 : decode jdk_52_method_21_code 38 = .ok (.iinc 5 1, 3) := by decide +kernel
theorem d7_41 : decode jdk_52_method_21_code 41 = .ok (.goto (-38), 3) := by decide +kernel
theorem d7_44 : decode jdk_52_method_21_code 44 = .ok (.iload 4, 2) := by decide +kernel
theorem d7_46 : decode jdk_52_method_21_code 46 = .ok (.ireturn, 1) := by decide +kernel
set_option maxRecDepth 65536 in
set_option maxHeartbeats 40000000 in
theorem own_comp5_1_con (l : Launch) (Z : State) (a0 : Array Value) (hw : ∀ d ∈ tables_1, d.before a0 Z = true) (ca ba : Addr) (x0 : Int32) (n0 : Nat) (h0 : Heap) (c_A0 : own_AV Z h0 ca .char [Value.int x0]) (r_A0 : own_AV Z h0 ba .byte (List.replicate 1 (defaultValue .byte))) (hx0 : 0 ≤ x0.toInt ∧ x0.toInt < 256) (ne_ca_ba : ca ≠ ba) (ga : n0 ≤ ba) (ws : List Jvm.Cond) :
    own_Con l Z (⟨"java/lang/StringUTF16", "compress", "([CI[BII)I"⟩ : MethodName) jdk_52_method_21_code 7 (some .int) ({ frames := 0, cells := 0, slots := 0, locals := 0 } : Room) #[(.ref ca), (.int (0 : Int32)), (.ref ba), (.int (0 : Int32)), (.int (1 : Int32))] h0 (fun v h L => v = some (.int (1 : Int32)) ∧ Fr n0 L ∧ Keep h0 h [ba] ∧ own_AV Z h ba .byte ([own_b x0].map Value.int)) ws := by
  refine own_con (F := fun m => (mkF m 0 #[.val (.ref ca), .val (.int (0 : Int32)), .val (.ref ba), .val (.int (0 : Int32)), .val (.int (1 : Int32)), .unset, .unset] [])) (own_pn (by first | (simp [plainName, overriddenIn]; done) | decide +kernel)) (fun m => by first | (simp [entryFrame, mkF, argsToLocals, Value.category]; done) | rfl) ?_
  intro p e s m below meth c T X hx hby hml hZ hown hnm hret hlk eT
  show own_Go p e below (own_Out s (fun v h L => v = some (.int (1 : Int32)) ∧ Fr n0 L ∧ Keep h0 h [ba] ∧ own_AV Z h ba .byte ([own_b x0].map Value.int)) ({ frames := 0, cells := 0, slots := 0, locals := 0 } : Room).cells ({ frames := 0, cells := 0, slots := 0, locals := 0 } : Room).slots) (T.setTop (mkF m 0 #[.val (.ref ca), .val (.int (0 : Int32)), .val (.ref ba), .val (.int (0 : Int32)), .val (.int (1 : Int32)), .unset, .unset] []))
  have N0 := Fr.nil n0
  have K0 := Keep.refl h0 [ba]
  refine own_go (fun _ => XS.iconst X.here hx rfl (hb hby d7_0)) ?_
  show own_Go p e below _ (T.setTop (mkF m 1 #[.val (.ref ca), .val (.int (0 : Int32)), .val (.ref ba), .val (.int (0 : Int32)), .val (.int (1 : Int32)), .unset, .unset] [(.int (0 : Int32))]))
  refine own_go (fun _ => XS.istore X.here hx rfl (hb hby d7_1) rfl (l' := #[.val (.ref ca), .val (.int (0 : Int32)), .val (.ref ba), .val (.int (0 : Int32)), .val (.int (1 : Int32)), .val (.int (0 : Int32)), .unset]) rfl) ?_
  show own_Go p e below _ (T.setTop (mkF m 3 #[.val (.ref ca), .val (.int (0 : Int32)), .val (.ref ba), .val (.int (0 : Int32)), .val (.int (1 : Int32)), .val (.int (0 : Int32)), .unset] []))
  refine own_go (fun _ => XS.iload X.here hx rfl (hb hby d7_3) rfl) ?_
  show own_Go p e below _ (T.setTop (mkF m 5 #[.val (.ref ca), .val (.int (0 : Int32)), .val (.ref ba), .val (.int (0 : Int32)), .val (.int (1 : Int32)), .val (.int (0 : Int32)), .unset] [(.int (0 : Int32))]))
  refine own_go (fun _ => XS.iload X.here hx rfl (hb hby d7_5) rfl) ?_
  show own_Go p e below _ (T.setTop (mkF m 7 #[.val (.ref ca), .val (.int (0 : Int32)), .val (.ref ba), .val (.int (0 : Int32)), .val (.int (1 : Int32)), .val (.int (0 : Int32)), .unset] [(.int (1 : Int32)), (.int (0 : Int32))]))
  refine own_go (fun _ => XS.icmpNo X.here hx rfl (hb hby d7_7) rfl (XT.ii_ge_f (by decide))) ?_
  show own_Go p e below _ (T.setTop (mkF m 10 #[.val (.ref ca), .val (.int (0 : Int32)), .val (.ref ba), .val (.int (0 : Int32)), .val (.int (1 : Int32)), .val (.int (0 : Int32)), .unset] []))
  refine own_go (fun _ => XS.aloadN X.here hx rfl (hb hby d7_10) rfl rfl) ?_
  show own_Go p e below _ (T.setTop (mkF m 11 #[.val (.ref ca), .val (.int (0 : Int32)), .val (.ref ba), .val (.int (0 : Int32)), .val (.int (1 : Int32)), .val (.int (0 : Int32)), .unset] [(.ref ca)]))
  refine own_go (fun _ => XS.iloadN X.here hx rfl (hb hby d7_11) rfl) ?_
  show own_Go p e below _ (T.setTop (mkF m 12 #[.val (.ref ca), .val (.int (0 : Int32)), .val (.ref ba), .val (.int (0 : Int32)), .val (.int (1 : Int32)), .val (.int (0 : Int32)), .unset] [(.int (0 : Int32)), (.ref ca)]))
  refine own_go (own_ldC X hx hZ eT c_A0 (g := (mkF m 12 #[.val (.ref ca), .val (.int (0 : Int32)), .val (.ref ba), .val (.int (0 : Int32)), .val (.int (1 : Int32)), .val (.int (0 : Int32)), .unset] [(.int (0 : Int32)), (.ref ca)])) rfl rfl (hb hby d7_12) 0 (by decide) (x := (.int x0)) rfl) ?_
  show own_Go p e below _ (T.setTop (mkF m 13 #[.val (.ref ca), .val (.int (0 : Int32)), .val (.ref ba), .val (.int (0 : Int32)), .val (.int (1 : Int32)), .val (.int (0 : Int32)), .unset] [(.int x0)]))
  refine own_go (fun _ => XS.istore X.here hx rfl (hb hby d7_13) rfl (l' := #[.val (.ref ca), .val (.int (0 : Int32)), .val (.ref ba), .val (.int (0 : Int32)), .val (.int (1 : Int32)), .val (.int (0 : Int32)), .val (.int x0)]) rfl) ?_
  show own_Go p e below _ (T.setTop (mkF m 15 #[.val (.ref ca), .val (.int (0 : Int32)), .val (.ref ba), .val (.int (0 : Int32)), .val (.int (1 : Int32)), .val (.int (0 : Int32)), .val (.int x0)] []))
  refine own_go (fun _ => XS.iload X.here hx rfl (hb hby d7_15) rfl) ?_
  show own_Go p e below _ (T.setTop (mkF m 17 #[.val (.ref ca), .val (.int (0 : Int32)), .val (.ref ba), .val (.int (0 : Int32)), .val (.int (1 : Int32)), .val (.int (0 : Int32)), .val (.int x0)] [(.int x0)]))
  refine own_go (fun _ => XS.sipush X.here hx rfl (hb hby d7_17)) ?_
  show own_Go p e below _ (T.setTop (mkF m 20 #[.val (.ref ca), .val (.int (0 : Int32)), .val (.ref ba), .val (.int (0 : Int32)), .val (.int (1 : Int32)), .val (.int (0 : Int32)), .val (.int x0)] [(.int (255 : Int32)), (.int x0)]))
  refine own_go (fun _ => XS.icmpYes X.here hx rfl (pc0 := 20) (pc' := 26) rfl (hb hby d7_20) rfl (XT.ii_le_t (by rw [Int32.lt_iff_toInt_lt]; simp only [Int32.reduceToInt]; omega)) (by decide) (by decide)) ?_
  show own_Go p e below _ (T.setTop (mkF m 26 #[.val (.ref ca), .val (.int (0 : Int32)), .val (.ref ba), .val (.int (0 : Int32)), .val (.int (1 : Int32)), .val (.int (0 : Int32)), .val (.int x0)] []))
  refine own_go (fun _ => XS.aloadN X.here hx rfl (hb hby d7_26) rfl rfl) ?_
  show own_Go p e below _ (T.setTop (mkF m 27 #[.val (.ref ca), .val (.int (0 : Int32)), .val (.ref ba), .val (.int (0 : Int32)), .val (.int (1 : Int32)), .val (.int (0 : Int32)), .val (.int x0)] [(.ref ba)]))
  refine own_go (fun _ => XS.iloadN X.here hx rfl (hb hby d7_27) rfl) ?_
  show own_Go p e below _ (T.setTop (mkF m 28 #[.val (.ref ca), .val (.int (0 : Int32)), .val (.ref ba), .val (.int (0 : Int32)), .val (.int (1 : Int32)), .val (.int (0 : Int32)), .val (.int x0)] [(.int (0 : Int32)), (.ref ba)]))
  refine own_go (fun _ => XS.iload X.here hx rfl (hb hby d7_28) rfl) ?_
  show own_Go p e below _ (T.setTop (mkF m 30 #[.val (.ref ca), .val (.int (0 : Int32)), .val (.ref ba), .val (.int (0 : Int32)), .val (.int (1 : Int32)), .val (.int (0 : Int32)), .val (.int x0)] [(.int x0), (.int (0 : Int32)), (.ref ba)]))
  refine own_go (fun _ => XT.i2b X.here hx rfl (hb hby d7_30) rfl) ?_
  show own_Go p e below _ (T.setTop (mkF m 31 #[.val (.ref ca), .val (.int (0 : Int32)), .val (.ref ba), .val (.int (0 : Int32)), .val (.int (1 : Int32)), .val (.int (0 : Int32)), .val (.int x0)] [(.int (x0.toInt8.toInt32)), (.int (0 : Int32)), (.ref ba)]))
  obtain ⟨T1, h1, X1, e1, W1, A1, st1⟩ := own_stB X hx hZ eT r_A0 (x := x0) (g := (mkF m 31 #[.val (.ref ca), .val (.int (0 : Int32)), .val (.ref ba), .val (.int (0 : Int32)), .val (.int (1 : Int32)), .val (.int (0 : Int32)), .val (.int x0)] [(.int (x0.toInt8.toInt32)), (.int (0 : Int32)), (.ref ba)])) rfl rfl (hb hby d7_31) 0 (by decide) (by simp) 
  have N1 := Fr.snoc X1 N0 ga
  have c_A_1 := c_A0.other W1 ne_ca_ba
  have K1 := K0.wr W1 (Or.inl (List.mem_of_getElem? (i := 0) rfl))
  refine own_go st1 ?_
  show own_Go p e below _ (T1.setTop (mkF m 32 #[.val (.ref ca), .val (.int (0 : Int32)), .val (.ref ba), .val (.int (0 : Int32)), .val (.int (1 : Int32)), .val (.int (0 : Int32)), .val (.int x0)] []))
  refine own_go (fun _ => XT.iincV X1.here hx rfl (1 : Int32) (hb hby d7_32) rfl rfl (l' := #[.val (.ref ca), .val (.int ((0 : Int32) + (1 : Int32))), .val (.ref ba), .val (.int (0 : Int32)), .val (.int (1 : Int32)), .val (.int (0 : Int32)), .val (.int x0)]) rfl) ?_
  show own_Go p e below _ (T1.setTop (mkF m 35 #[.val (.ref ca), .val (.int ((0 : Int32) + (1 : Int32))), .val (.ref ba), .val (.int (0 : Int32)), .val (.int (1 : Int32)), .val (.int (0 : Int32)), .val (.int x0)] []))
  refine own_go (fun _ => XT.iincV X1.here hx rfl (1 : Int32) (hb hby d7_35) rfl rfl (l' := #[.val (.ref ca), .val (.int ((0 : Int32) + (1 : Int32))), .val (.ref ba), .val (.int ((0 : Int32) + (1 : Int32))), .val (.int (1 : Int32)), .val (.int (0 : Int32)), .val (.int x0)]) rfl) ?_
  show own_Go p e below _ (T1.setTop (mkF m 38 #[.val (.ref ca), .val (.int ((0 : Int32) + (1 : Int32))), .val (.ref ba), .val (.int ((0 : Int32) + (1 : Int32))), .val (.int (1 : Int32)), .val (.int (0 : Int32)), .val (.int x0)] []))
  refine own_go (fun _ => XT.iincV X1.here hx rfl (1 : Int32) (hb hby d7_38) rfl rfl (l' := #[.val (.ref ca), .val (.int ((0 : Int32) + (1 : Int32))), .val (.ref ba), .val (.int ((0 : Int32) + (1 : Int32))), .val (.int (1 : Int32)), .val (.int ((0 : Int32) + (1 : Int32))), .val (.int x0)]) rfl) ?_
  show own_Go p e below _ (T1.setTop (mkF m 41 #[.val (.ref ca), .val (.int ((0 : Int32) + (1 : Int32))), .val (.ref ba), .val (.int ((0 : Int32) + (1 : Int32))), .val (.int (1 : Int32)), .val (.int ((0 : Int32) + (1 : Int32))), .val (.int x0)] []))
  refine own_go (fun _ => XS.goto X1.here hx rfl (pc0 := 41) (pc' := 3) rfl (hb hby d7_41) (by decide) (by decide)) ?_
  show own_Go p e below _ (T1.setTop (mkF m 3 #[.val (.ref ca), .val (.int ((0 : Int32) + (1 : Int32))), .val (.ref ba), .val (.int ((0 : Int32) + (1 : Int32))), .val (.int (1 : Int32)), .val (.int ((0 : Int32) + (1 : Int32))), .val (.int x0)] []))
  refine own_go (fun _ => XS.iload X1.here hx rfl (hb hby d7_3) rfl) ?_
  show own_Go p e below _ (T1.setTop (mkF m 5 #[.val (.ref ca), .val (.int ((0 : Int32) + (1 : Int32))), .val (.ref ba), .val (.int ((0 : Int32) + (1 : Int32))), .val (.int (1 : Int32)), .val (.int ((0 : Int32) + (1 : Int32))), .val (.int x0)] [(.int ((0 : Int32) + (1 : Int32)))]))
  refine own_go (fun _ => XS.iload X1.here hx rfl (hb hby d7_5) rfl) ?_
  show own_Go p e below _ (T1.setTop (mkF m 7 #[.val (.ref ca), .val (.int ((0 : Int32) + (1 : Int32))), .val (.ref ba), .val (.int ((0 : Int32) + (1 : Int32))), .val (.int (1 : Int32)), .val (.int ((0 : Int32) + (1 : Int32))), .val (.int x0)] [(.int (1 : Int32)), (.int ((0 : Int32) + (1 : Int32)))]))
  refine own_go (fun _ => XS.icmpYes X1.here hx rfl (pc0 := 7) (pc' := 44) rfl (hb hby d7_7) rfl (XT.ii_ge_t (by decide)) (by decide) (by decide)) ?_
  show own_Go p e below _ (T1.setTop (mkF m 44 #[.val (.ref ca), .val (.int ((0 : Int32) + (1 : Int32))), .val (.ref ba), .val (.int ((0 : Int32) + (1 : Int32))), .val (.int (1 : Int32)), .val (.int ((0 : Int32) + (1 : Int32))), .val (.int x0)] []))
  refine own_go (fun _ => XS.iload X1.here hx rfl (hb hby d7_44) rfl) ?_
  show own_Go p e below _ (T1.setTop (mkF m 46 #[.val (.ref ca), .val (.int ((0 : Int32) + (1 : Int32))), .val (.ref ba), .val (.int ((0 : Int32) + (1 : Int32))), .val (.int (1 : Int32)), .val (.int ((0 : Int32) + (1 : Int32))), .val (.int x0)] [(.int (1 : Int32))]))
  exact own_iret X1 hx hlk hret (Or.inl rfl) rfl (hb hby d7_46) (by decide) (by decide) (by rw [e1]; exact ⟨rfl, N1, K1, A1⟩)

set_option maxRecDepth 65536 in
set_option maxHeartbeats 40000000 in
theorem own_comp5_2_con (l : Launch) (Z : State) (a0 : Array Value) (hw : ∀ d ∈ tables_1, d.before a0 Z = true) (ca ba : Addr) (x0 x1 : Int32) (n0 : Nat) (h0 : Heap) (c_A0 : own_AV Z h0 ca .char [Value.int x0, Value.int x1]) (r_A0 : own_AV Z h0 ba .byte (List.replicate 2 (defaultValue .byte))) (hx0 : 0 ≤ x0.toInt ∧ x0.toInt < 256) (hx1 : 0 ≤ x1.toInt ∧ x1.toInt < 256) (ne_ca_ba : ca ≠ ba) (ga : n0 ≤ ba) (ws : List Jvm.Cond) :
    own_Con l Z (⟨"java/lang/StringUTF16", "compress", "([CI[BII)I"⟩ : MethodName) jdk_52_method_21_code 7 (some .int) ({ frames := 0, cells := 0, slots := 0, locals := 0 } : Room) #[(.ref ca), (.int (0 : Int32)), (.ref ba), (.int (0 : Int32)), (.int (2 : Int32))] h0 (fun v h L => v = some (.int (2 : Int32)) ∧ Fr n0 L ∧ Keep h0 h [ba] ∧ own_AV Z h ba .byte ([own_b x0, own_b x1].map Value.int)) ws := by
  refine own_con (F := fun m => (mkF m 0 #[.val (.ref ca), .val (.int (0 : Int32)), .val (.ref ba), .val (.int (0 : Int32)), .val (.int (2 : Int32)), .unset, .unset] [])) (own_pn (by first | (simp [plainName, overriddenIn]; done) | decide +kernel)) (fun m => by first | (simp [entryFrame, mkF, argsToLocals, Value.category]; done) | rfl) ?_
  intro p e s m below meth c T X hx hby hml hZ hown hnm hret hlk eT
  show own_Go p e below (own_Out s (fun v h L => v = some (.int (2 : Int32)) ∧ Fr n0 L ∧ Keep h0 h [ba] ∧ own_AV Z h ba .byte ([own_b x0, own_b x1].map Value.int)) ({ frames := 0, cells := 0, slots := 0, locals := 0 } : Room).cells ({ frames := 0, cells := 0, slots := 0, locals := 0 } : Room).slots) (T.setTop (mkF m 0 #[.val (.ref ca), .val (.int (0 : Int32)), .val (.ref ba), .val (.int (0 : Int32)), .val (.int (2 : Int32)), .unset, .unset] []))
  have N0 := Fr.nil n0
  have K0 := Keep.refl h0 [ba]
  refine own_go (fun _ => XS.iconst X.here hx rfl (hb hby d7_0)) ?_
  show own_Go p e below _ (T.setTop (mkF m 1 #[.val (.ref ca), .val (.int (0 : Int32)), .val (.ref ba), .val (.int (0 : Int32)), .val (.int (2 : Int32)), .unset, .unset] [(.int (0 : Int32))]))
  refine own_go (fun _ => XS.istore X.here hx rfl (hb hby d7_1) rfl (l' := #[.val (.ref ca), .val (.int (0 : Int32)), .val (.ref ba), .val (.int (0 : Int32)), .val (.int (2 : Int32)), .val (.int (0 : Int32)), .unset]) rfl) ?_
  show own_Go p e below _ (T.setTop (mkF m 3 #[.val (.ref ca), .val (.int (0 : Int32)), .val (.ref ba), .val (.int (0 : Int32)), .val (.int (2 : Int32)), .val (.int (0 : Int32)), .unset] []))
  refine own_go (fun _ => XS.iload X.here hx rfl (hb hby d7_3) rfl) ?_
  show own_Go p e below _ (T.setTop (mkF m 5 #[.val (.ref ca), .val (.int (0 : Int32)), .val (.ref ba), .val (.int (0 : Int32)), .val (.int (2 : Int32)), .val (.int (0 : Int32)), .unset] [(.int (0 : Int32))]))
  refine own_go (fun _ => XS.iload X.here hx rfl (hb hby d7_5) rfl) ?_
  show own_Go p e below _ (T.setTop (mkF m 7 #[.val (.ref ca), .val (.int (0 : Int32)), .val (.ref ba), .val (.int (0 : Int32)), .val (.int (2 : Int32)), .val (.int (0 : Int32)), .unset] [(.int (2 : Int32)), (.int (0 : Int32))]))
  refine own_go (fun _ => XS.icmpNo X.here hx rfl (hb hby d7_7) rfl (XT.ii_ge_f (by decide))) ?_
  show own_Go p e below _ (T.setTop (mkF m 10 #[.val (.ref ca), .val (.int (0 : Int32)), .val (.ref ba), .val (.int (0 : Int32)), .val (.int (2 : Int32)), .val (.int (0 : Int32)), .unset] []))
  refine own_go (fun _ => XS.aloadN X.here hx rfl (hb hby d7_10) rfl rfl) ?_
  show own_Go p e below _ (T.setTop (mkF m 11 #[.val (.ref ca), .val (.int (0 : Int32)), .val (.ref ba), .val (.int (0 : Int32)), .val (.int (2 : Int32)), .val (.int (0 : Int32)), .unset] [(.ref ca)]))
  refine own_go (fun _ => XS.iloadN X.here hx rfl (hb hby d7_11) rfl) ?_
  show own_Go p e below _ (T.setTop (mkF m 12 #[.val (.ref ca), .val (.int (0 : Int32)), .val (.ref ba), .val (.int (0 : Int32)), .val (.int (2 : Int32)), .val (.int (0 : Int32)), .unset] [(.int (0 : Int32)), (.ref ca)]))
  refine own_go (own_ldC X hx hZ eT c_A0 (g := (mkF m 12 #[.val (.ref ca), .val (.int (0 : Int32)), .val (.ref ba), .val (.int (0 : Int32)), .val (.int (2 : Int32)), .val (.int (0 : Int32)), .unset] [(.int (0 : Int32)), (.ref ca)])) rfl rfl (hb hby d7_12) 0 (by decide) (x := (.int x0)) rfl) ?_
  show own_Go p e below _ (T.setTop (mkF m 13 #[.val (.ref ca), .val (.int (0 : Int32)), .val (.ref ba), .val (.int (0 : Int32)), .val (.int (2 : Int32)), .val (.int (0 : Int32)), .unset] [(.int x0)]))
  refine own_go (fun _ => XS.istore X.here hx rfl (hb hby d7_13) rfl (l' := #[.val (.ref ca), .val (.int (0 : Int32)), .val (.ref ba), .val (.int (0 : Int32)), .val (.int (2 : Int32)), .val (.int (0 : Int32)), .val (.int x0)]) rfl) ?_
  show own_Go p e below _ (T.setTop (mkF m 15 #[.val (.ref ca), .val (.int (0 : Int32)), .val (.ref ba), .val (.int (0 : Int32)), .val (.int (2 : Int32)), .val (.int (0 : Int32)), .val (.int x0)] []))
  refine own_go (fun _ => XS.iload X.here hx rfl (hb hby d7_15) rfl) ?_
  show own_Go p e below _ (T.setTop (mkF m 17 #[.val (.ref ca), .val (.int (0 : Int32)), .val (.ref ba), .val (.int (0 : Int32)), .val (.int (2 : Int32)), .val (.int (0 : Int32)), .val (.int x0)] [(.int x0)]))
  refine own_go (fun _ => XS.sipush X.here hx rfl (hb hby d7_17)) ?_
  show own_Go p e below _ (T.setTop (mkF m 20 #[.val (.ref ca), .val (.int (0 : Int32)), .val (.ref ba), .val (.int (0 : Int32)), .val (.int (2 : Int32)), .val (.int (0 : Int32)), .val (.int x0)] [(.int (255 : Int32)), (.int x0)]))
  refine own_go (fun _ => XS.icmpYes X.here hx rfl (pc0 := 20) (pc' := 26) rfl (hb hby d7_20) rfl (XT.ii_le_t (by rw [Int32.lt_iff_toInt_lt]; simp only [Int32.reduceToInt]; omega)) (by decide) (by decide)) ?_
  show own_Go p e below _ (T.setTop (mkF m 26 #[.val (.ref ca), .val (.int (0 : Int32)), .val (.ref ba), .val (.int (0 : Int32)), .val (.int (2 : Int32)), .val (.int (0 : Int32)), .val (.int x0)] []))
  refine own_go (fun _ => XS.aloadN X.here hx rfl (hb hby d7_26) rfl rfl) ?_
  show own_Go p e below _ (T.setTop (mkF m 27 #[.val (.ref ca), .val (.int (0 : Int32)), .val (.ref ba), .val (.int (0 : Int32)), .val (.int (2 : Int32)), .val (.int (0 : Int32)), .val (.int x0)] [(.ref ba)]))
  refine own_go (fun _ => XS.iloadN X.here hx rfl (hb hby d7_27) rfl) ?_
  show own_Go p e below _ (T.setTop (mkF m 28 #[.val (.ref ca), .val (.int (0 : Int32)), .val (.ref ba), .val (.int (0 : Int32)), .val (.int (2 : Int32)), .val (.int (0 : Int32)), .val (.int x0)] [(.int (0 : Int32)), (.ref ba)]))
  refine own_go (fun _ => XS.iload X.here hx rfl (hb hby d7_28) rfl) ?_
  show own_Go p e below _ (T.setTop (mkF m 30 #[.val (.ref ca), .val (.int (0 : Int32)), .val (.ref ba), .val (.int (0 : Int32)), .val (.int (2 : Int32)), .val (.int (0 : Int32)), .val (.int x0)] [(.int x0), (.int (0 : Int32)), (.ref ba)]))
  refine own_go (fun _ => XT.i2b X.here hx rfl (hb hby d7_30) rfl) ?_
  show own_Go p e below _ (T.setTop (mkF m 31 #[.val (.ref ca), .val (.int (0 : Int32)), .val (.ref ba), .val (.int (0 : Int32)), .val (.int (2 : Int32)), .val (.int (0 : Int32)), .val (.int x0)] [(.int (x0.toInt8.toInt32)), (.int (0 : Int32)), (.ref ba)]))
  obtain ⟨T1, h1, X1, e1, W1, A1, st1⟩ := own_stB X hx hZ eT r_A0 (x := x0) (g := (mkF m 31 #[.val (.ref ca), .val (.int (0 : Int32)), .val (.ref ba), .val (.int (0 : Int32)), .val (.int (2 : Int32)), .val (.int (0 : Int32)), .val (.int x0)] [(.int (x0.toInt8.toInt32)), (.int (0 : Int32)), (.ref ba)])) rfl rfl (hb hby d7_31) 0 (by decide) (by simp) 
  have N1 := Fr.snoc X1 N0 ga
  have c_A_1 := c_A0.other W1 ne_ca_ba
  have K1 := K0.wr W1 (Or.inl (List.mem_of_getElem? (i := 0) rfl))
  refine own_go st1 ?_
  show own_Go p e below _ (T1.setTop (mkF m 32 #[.val (.ref ca), .val (.int (0 : Int32)), .val (.ref ba), .val (.int (0 : Int32)), .val (.int (2 : Int32)), .val (.int (0 : Int32)), .val (.int x0)] []))
  refine own_go (fun _ => XT.iincV X1.here hx rfl (1 : Int32) (hb hby d7_32) rfl rfl (l' := #[.val (.ref ca), .val (.int ((0 : Int32) + (1 : Int32))), .val (.ref ba), .val (.int (0 : Int32)), .val (.int (2 : Int32)), .val (.int (0 : Int32)), .val (.int x0)]) rfl) ?_
  show own_Go p e below _ (T1.setTop (mkF m 35 #[.val (.ref ca), .val (.int ((0 : Int32) + (1 : Int32))), .val (.ref ba), .val (.int (0 : Int32)), .val (.int (2 : Int32)), .val (.int (0 : Int32)), .val (.int x0)] []))
  refine own_go (fun _ => XT.iincV X1.here hx rfl (1 : Int32) (hb hby d7_35) rfl rfl (l' := #[.val (.ref ca), .val (.int ((0 : Int32) + (1 : Int32))), .val (.ref ba), .val (.int ((0 : Int32) + (1 : Int32))), .val (.int (2 : Int32)), .val (.int (0 : Int32)), .val (.int x0)]) rfl) ?_
  show own_Go p e below _ (T1.setTop (mkF m 38 #[.val (.ref ca), .val (.int ((0 : Int32) + (1 : Int32))), .val (.ref ba), .val (.int ((0 : Int32) + (1 : Int32))), .val (.int (2 : Int32)), .val (.int (0 : Int32)), .val (.int x0)] []))
  refine own_go (fun _ => XT.iincV X1.here hx rfl (1 : Int32) (hb hby d7_38) rfl rfl (l' := #[.val (.ref ca), .val (.int ((0 : Int32) + (1 : Int32))), .val (.ref ba), .val (.int ((0 : Int32) + (1 : Int32))), .val (.int (2 : Int32)), .val (.int ((0 : Int32) + (1 : Int32))), .val (.int x0)]) rfl) ?_
  show own_Go p e below _ (T1.setTop (mkF m 41 #[.val (.ref ca), .val (.int ((0 : Int32) + (1 : Int32))), .val (.ref ba), .val (.int ((0 : Int32) + (1 : Int32))), .val (.int (2 : Int32)), .val (.int ((0 : Int32) + (1 : Int32))), .val (.int x0)] []))
  refine own_go (fun _ => XS.goto X1.here hx rfl (pc0 := 41) (pc' := 3) rfl (hb hby d7_41) (by decide) (by decide)) ?_
  show own_Go p e below _ (T1.setTop (mkF m 3 #[.val (.ref ca), .val (.int ((0 : Int32) + (1 : Int32))), .val (.ref ba), .val (.int ((0 : Int32) + (1 : Int32))), .val (.int (2 : Int32)), .val (.int ((0 : Int32) + (1 : Int32))), .val (.int x0)] []))
  refine own_go (fun _ => XS.iload X1.here hx rfl (hb hby d7_3) rfl) ?_
  show own_Go p e below _ (T1.setTop (mkF m 5 #[.val (.ref ca), .val (.int ((0 : Int32) + (1 : Int32))), .val (.ref ba), .val (.int ((0 : Int32) + (1 : Int32))), .val (.int (2 : Int32)), .val (.int ((0 : Int32) + (1 : Int32))), .val (.int x0)] [(.int ((0 : Int32) + (1 : Int32)))]))
  refine own_go (fun _ => XS.iload X1.here hx rfl (hb hby d7_5) rfl) ?_
  show own_Go p e below _ (T1.setTop (mkF m 7 #[.val (.ref ca), .val (.int ((0 : Int32) + (1 : Int32))), .val (.ref ba), .val (.int ((0 : Int32) + (1 : Int32))), .val (.int (2 : Int32)), .val (.int ((0 : Int32) + (1 : Int32))), .val (.int x0)] [(.int (2 : Int32)), (.int ((0 : Int32) + (1 : Int32)))]))
  refine own_go (fun _ => XS.icmpNo X1.here hx rfl (hb hby d7_7) rfl (XT.ii_ge_f (by decide))) ?_
  show own_Go p e below _ (T1.setTop (mkF m 10 #[.val (.ref ca), .val (.int ((0 : Int32) + (1 : Int32))), .val (.ref ba), .val (.int ((0 : Int32) + (1 : Int32))), .val (.int (2 : Int32)), .val (.int ((0 : Int32) + (1 : Int32))), .val (.int x0)] []))
  refine own_go (fun _ => XS.aloadN X1.here hx rfl (hb hby d7_10) rfl rfl) ?_
  show own_Go p e below _ (T1.setTop (mkF m 11 #[.val (.ref ca), .val (.int ((0 : Int32) + (1 : Int32))), .val (.ref ba), .val (.int ((0 : Int32) + (1 : Int32))), .val (.int (2 : Int32)), .val (.int ((0 : Int32) + (1 : Int32))), .val (.int x0)] [(.ref ca)]))
  refine own_go (fun _ => XS.iloadN X1.here hx rfl (hb hby d7_11) rfl) ?_
  show own_Go p e below _ (T1.setTop (mkF m 12 #[.val (.ref ca), .val (.int ((0 : Int32) + (1 : Int32))), .val (.ref ba), .val (.int ((0 : Int32) + (1 : Int32))), .val (.int (2 : Int32)), .val (.int ((0 : Int32) + (1 : Int32))), .val (.int x0)] [(.int ((0 : Int32) + (1 : Int32))), (.ref ca)]))
  refine own_go (own_ldC X1 hx hZ e1 c_A_1 (g := (mkF m 12 #[.val (.ref ca), .val (.int ((0 : Int32) + (1 : Int32))), .val (.ref ba), .val (.int ((0 : Int32) + (1 : Int32))), .val (.int (2 : Int32)), .val (.int ((0 : Int32) + (1 : Int32))), .val (.int x0)] [(.int ((0 : Int32) + (1 : Int32))), (.ref ca)])) rfl rfl (hb hby d7_12) 1 (by decide) (x := (.int x1)) rfl) ?_
  show own_Go p e below _ (T1.setTop (mkF m 13 #[.val (.ref ca), .val (.int ((0 : Int32) + (1 : Int32))), .val (.ref ba), .val (.int ((0 : Int32) + (1 : Int32))), .val (.int (2 : Int32)), .val (.int ((0 : Int32) + (1 : Int32))), .val (.int x0)] [(.int x1)]))
  refine own_go (fun _ => XS.istore X1.here hx rfl (hb hby d7_13) rfl (l' := #[.val (.ref ca), .val (.int ((0 : Int32) + (1 : Int32))), .val (.ref ba), .val (.int ((0 : Int32) + (1 : Int32))), .val (.int (2 : Int32)), .val (.int ((0 : Int32) + (1 : Int32))), .val (.int x1)]) rfl) ?_
  show own_Go p e below _ (T1.setTop (mkF m 15 #[.val (.ref ca), .val (.int ((0 : Int32) + (1 : Int32))), .val (.ref ba), .val (.int ((0 : Int32) + (1 : Int32))), .val (.int (2 : Int32)), .val (.int ((0 : Int32) + (1 : Int32))), .val (.int x1)] []))
  refine own_go (fun _ => XS.iload X1.here hx rfl (hb hby d7_15) rfl) ?_
  show own_Go p e below _ (T1.setTop (mkF m 17 #[.val (.ref ca), .val (.int ((0 : Int32) + (1 : Int32))), .val (.ref ba), .val (.int ((0 : Int32) + (1 : Int32))), .val (.int (2 : Int32)), .val (.int ((0 : Int32) + (1 : Int32))), .val (.int x1)] [(.int x1)]))
  refine own_go (fun _ => XS.sipush X1.here hx rfl (hb hby d7_17)) ?_
  show own_Go p e below _ (T1.setTop (mkF m 20 #[.val (.ref ca), .val (.int ((0 : Int32) + (1 : Int32))), .val (.ref ba), .val (.int ((0 : Int32) + (1 : Int32))), .val (.int (2 : Int32)), .val (.int ((0 : Int32) + (1 : Int32))), .val (.int x1)] [(.int (255 : Int32)), (.int x1)]))
  refine own_go (fun _ => XS.icmpYes X1.here hx rfl (pc0 := 20) (pc' := 26) rfl (hb hby d7_20) rfl (XT.ii_le_t (by rw [Int32.lt_iff_toInt_lt]; simp only [Int32.reduceToInt]; omega)) (by decide) (by decide)) ?_
  show own_Go p e below _ (T1.setTop (mkF m 26 #[.val (.ref ca), .val (.int ((0 : Int32) + (1 : Int32))), .val (.ref ba), .val (.int ((0 : Int32) + (1 : Int32))), .val (.int (2 : Int32)), .val (.int ((0 : Int32) + (1 : Int32))), .val (.int x1)] []))
  refine own_go (fun _ => XS.aloadN X1.here hx rfl (hb hby d7_26) rfl rfl) ?_
  show own_Go p e below _ (T1.setTop (mkF m 27 #[.val (.ref ca), .val (.int ((0 : Int32) + (1 : Int32))), .val (.ref ba), .val (.int ((0 : Int32) + (1 : Int32))), .val (.int (2 : Int32)), .val (.int ((0 : Int32) + (1 : Int32))), .val (.int x1)] [(.ref ba)]))
  refine own_go (fun _ => XS.iloadN X1.here hx rfl (hb hby d7_27) rfl) ?_
  show own_Go p e below _ (T1.setTop (mkF m 28 #[.val (.ref ca), .val (.int ((0 : Int32) + (1 : Int32))), .val (.ref ba), .val (.int ((0 : Int32) + (1 : Int32))), .val (.int (2 : Int32)), .val (.int ((0 : Int32) + (1 : Int32))), .val (.int x1)] [(.int ((0 : Int32) + (1 : Int32))), (.ref ba)]))
  refine own_go (fun _ => XS.iload X1.here hx rfl (hb hby d7_28) rfl) ?_
  show own_Go p e below _ (T1.setTop (mkF m 30 #[.val (.ref ca), .val (.int ((0 : Int32) + (1 : Int32))), .val (.ref ba), .val (.int ((0 : Int32) + (1 : Int32))), .val (.int (2 : Int32)), .val (.int ((0 : Int32) + (1 : Int32))), .val (.int x1)] [(.int x1), (.int ((0 : Int32) + (1 : Int32))), (.ref ba)]))
  refine own_go (fun _ => XT.i2b X1.here hx rfl (hb hby d7_30) rfl) ?_
  show own_Go p e below _ (T1.setTop (mkF m 31 #[.val (.ref ca), .val (.int ((0 : Int32) + (1 : Int32))), .val (.ref ba), .val (.int ((0 : Int32) + (1 : Int32))), .val (.int (2 : Int32)), .val (.int ((0 : Int32) + (1 : Int32))), .val (.int x1)] [(.int (x1.toInt8.toInt32)), (.int ((0 : Int32) + (1 : Int32))), (.ref ba)]))
  obtain ⟨T2, h2, X2, e2, W2, A2, st2⟩ := own_stB X1 hx hZ e1 A1 (x := x1) (g := (mkF m 31 #[.val (.ref ca), .val (.int ((0 : Int32) + (1 : Int32))), .val (.ref ba), .val (.int ((0 : Int32) + (1 : Int32))), .val (.int (2 : Int32)), .val (.int ((0 : Int32) + (1 : Int32))), .val (.int x1)] [(.int (x1.toInt8.toInt32)), (.int ((0 : Int32) + (1 : Int32))), (.ref ba)])) rfl rfl (hb hby d7_31) 1 (by decide) (by simp) 
  have N2 := Fr.snoc X2 N1 ga
  have c_A_2 := c_A_1.other W2 ne_ca_ba
  have K2 := K1.wr W2 (Or.inl (List.mem_of_getElem? (i := 0) rfl))
  refine own_go st2 ?_
  show own_Go p e below _ (T2.setTop (mkF m 32 #[.val (.ref ca), .val (.int ((0 : Int32) + (1 : Int32))), .val (.ref ba), .val (.int ((0 : Int32) + (1 : Int32))), .val (.int (2 : Int32)), .val (.int ((0 : Int32) + (1 : Int32))), .val (.int x1)] []))
  refine own_go (fun _ => XT.iincV X2.here hx rfl (1 : Int32) (hb hby d7_32) rfl rfl (l' := #[.val (.ref ca), .val (.int (((0 : Int32) + (1 : Int32)) + (1 : Int32))), .val (.ref ba), .val (.int ((0 : Int32) + (1 : Int32))), .val (.int (2 : Int32)), .val (.int ((0 : Int32) + (1 : Int32))), .val (.int x1)]) rfl) ?_
  show own_Go p e below _ (T2.setTop (mkF m 35 #[.val (.ref ca), .val (.int (((0 : Int32) + (1 : Int32)) + (1 : Int32))), .val (.ref ba), .val (.int ((0 : Int32) + (1 : Int32))), .val (.int (2 : Int32)), .val (.int ((0 : Int32) + (1 : Int32))), .val (.int x1)] []))
  refine own_go (fun _ => XT.iincV X2.here hx rfl (1 : Int32) (hb hby d7_35) rfl rfl (l' := #[.val (.ref ca), .val (.int (((0 : Int32) + (1 : Int32)) + (1 : Int32))), .val (.ref ba), .val (.int (((0 : Int32) + (1 : Int32)) + (1 : Int32))), .val (.int (2 : Int32)), .val (.int ((0 : Int32) + (1 : Int32))), .val (.int x1)]) rfl) ?_
  show own_Go p e below _ (T2.setTop (mkF m 38 #[.val (.ref ca), .val (.int (((0 : Int32) + (1 : Int32)) + (1 : Int32))), .val (.ref ba), .val (.int (((0 : Int32) + (1 : Int32)) + (1 : Int32))), .val (.int (2 : Int32)), .val (.int ((0 : Int32) + (1 : Int32))), .val (.int x1)] []))
  refine own_go (fun _ => XT.iincV X2.here hx rfl (1 : Int32) (hb hby d7_38) rfl rfl (l' := #[.val (.ref ca), .val (.int (((0 : Int32) + (1 : Int32)) + (1 : Int32))), .val (.ref ba), .val (.int (((0 : Int32) + (1 : Int32)) + (1 : Int32))), .val (.int (2 : Int32)), .val (.int (((0 : Int32) + (1 : Int32)) + (1 : Int32))), .val (.int x1)]) rfl) ?_
  show own_Go p e below _ (T2.setTop (mkF m 41 #[.val (.ref ca), .val (.int (((0 : Int32) + (1 : Int32)) + (1 : Int32))), .val (.ref ba), .val (.int (((0 : Int32) + (1 : Int32)) + (1 : Int32))), .val (.int (2 : Int32)), .val (.int (((0 : Int32) + (1 : Int32)) + (1 : Int32))), .val (.int x1)] []))
  refine own_go (fun _ => XS.goto X2.here hx rfl (pc0 := 41) (pc' := 3) rfl (hb hby d7_41) (by decide) (by decide)) ?_
  show own_Go p e below _ (T2.setTop (mkF m 3 #[.val (.ref ca), .val (.int (((0 : Int32) + (1 : Int32)) + (1 : Int32))), .val (.ref ba), .val (.int (((0 : Int32) + (1 : Int32)) + (1 : Int32))), .val (.int (2 : Int32)), .val (.int (((0 : Int32) + (1 : Int32)) + (1 : Int32))), .val (.int x1)] []))
  refine own_go (fun _ => XS.iload X2.here hx rfl (hb hby d7_3) rfl) ?_
  show own_Go p e below _ (T2.setTop (mkF m 5 #[.val (.ref ca), .val (.int (((0 : Int32) + (1 : Int32)) + (1 : Int32))), .val (.ref ba), .val (.int (((0 : Int32) + (1 : Int32)) + (1 : Int32))), .val (.int (2 : Int32)), .val (.int (((0 : Int32) + (1 : Int32)) + (1 : Int32))), .val (.int x1)] [(.int (((0 : Int32) + (1 : Int32)) + (1 : Int32)))]))
  refine own_go (fun _ => XS.iload X2.here hx rfl (hb hby d7_5) rfl) ?_
  show own_Go p e below _ (T2.setTop (mkF m 7 #[.val (.ref ca), .val (.int (((0 : Int32) + (1 : Int32)) + (1 : Int32))), .val (.ref ba), .val (.int (((0 : Int32) + (1 : Int32)) + (1 : Int32))), .val (.int (2 : Int32)), .val (.int (((0 : Int32) + (1 : Int32)) + (1 : Int32))), .val (.int x1)] [(.int (2 : Int32)), (.int (((0 : Int32) + (1 : Int32)) + (1 : Int32)))]))
  refine own_go (fun _ => XS.icmpYes X2.here hx rfl (pc0 := 7) (pc' := 44) rfl (hb hby d7_7) rfl (XT.ii_ge_t (by decide)) (by decide) (by decide)) ?_
  show own_Go p e below _ (T2.setTop (mkF m 44 #[.val (.ref ca), .val (.int (((0 : Int32) + (1 : Int32)) + (1 : Int32))), .val (.ref ba), .val (.int (((0 : Int32) + (1 : Int32)) + (1 : Int32))), .val (.int (2 : Int32)), .val (.int (((0 : Int32) + (1 : Int32)) + (1 : Int32))), .val (.int x1)] []))
  refine own_go (fun _ => XS.iload X2.here hx rfl (hb hby d7_44) rfl) ?_
  show own_Go p e below _ (T2.setTop (mkF m 46 #[.val (.ref ca), .val (.int (((0 : Int32) + (1 : Int32)) + (1 : Int32))), .val (.ref ba), .val (.int (((0 : Int32) + (1 : Int32)) + (1 : Int32))), .val (.int (2 : Int32)), .val (.int (((0 : Int32) + (1 : Int32)) + (1 : Int32))), .val (.int x1)] [(.int (2 : Int32))]))
  exact own_iret X2 hx hlk hret (Or.inl rfl) rfl (hb hby d7_46) (by decide) (by decide) (by rw [e2]; exact ⟨rfl, N2, K2, A2⟩)
theorem d6_0 : decode jdk_52_method_16_code 0 = .ok (.iload_n 2, 1) := by decide +kernel
theorem d6_1 : decode jdk_52_method_16_code 1 = .ok (.newarray .byte, 2) := by decide +kernel
theorem d6_3 : decode jdk_52_method_16_code 3 = .ok (.astore_n 3, 1) := by decide +kernel
theorem d6_4 : decode jdk_52_method_16_code 4 = .ok (.aload_n 0, 1) := by decide +kernel
theorem d6_5 : decode jdk_52_method_16_code 5 = .ok (.iload_n 1, 1) := by decide +kernel
theorem d6_6 : decode jdk_52_method_16_code 6 = .ok (.aload_n 3, 1) := by decide +kernel
theorem d6_7 : decode jdk_52_method_16_code 7 = .ok (.iconst 0, 1) := by decide +kernel
theorem d6_8 : decode jdk_52_method_16_code 8 = .ok (.iload_n 2, 1) := by decide +kernel
theorem d6_9 : decode jdk_52_method_16_code 9 = .ok (.invokestatic 115, 3) := by decide +kernel
theorem d6_12 : decode jdk_52_method_16_code 12 = .ok (.istore 4, 2) := by decide +kernel
theorem d6_14 : decode jdk_52_method_16_code 14 = .ok (.iload 4, 2) := by decide +kernel
theorem d6_16 : decode jdk_52_method_16_code 16 = .ok (.iload_n 2, 1) := by decide +kernel
theorem d6_17 : decode jdk_52_method_16_code 17 = .ok (.if_icmp .eq 40, 3) := by decide +kernel
theorem d6_57 : decode jdk_52_method_16_code 57 = .ok (.aload_n 3, 1) := by decide +kernel
theorem d6_58 : decode jdk_52_method_16_code 58 = .ok (.areturn, 1) := by decide +kernel
set_option maxRecDepth 65536 in
set_option maxHeartbeats 40000000 in
theorem own_comp3_1_con (l : Launch) (Z : State) (a0 : Array Value) (hw : ∀ d ∈ tables_1, d.before a0 Z = true) (ca : Addr) (x0 : Int32) (n0 : Nat) (h0 : Heap) (c_A0 : own_AV Z h0 ca .char [Value.int x0]) (hx0 : 0 ≤ x0.toInt ∧ x0.toInt < 256) (gn : n0 ≤ h0.size) (ws : List Jvm.Cond) :
    own_Con l Z (⟨"java/lang/StringUTF16", "compress", "([CII)[B"⟩ : MethodName) jdk_52_method_16_code 6 (some (.array .byte)) ({ frames := 1, cells := 1, slots := 1, locals := 30 } : Room) #[(.ref ca), (.int (0 : Int32)), (.int (1 : Int32))] h0 (fun v h L => v = some (.ref h0.size) ∧ Fr n0 L ∧ Keep h0 h [] ∧ own_AV Z h h0.size .byte ([own_b x0].map Value.int)) ws := by
  refine own_con (F := fun m => (mkF m 0 #[.val (.ref ca), .val (.int (0 : Int32)), .val (.int (1 : Int32)), .unset, .unset, .unset] [])) (own_pn (by first | (simp [plainName, overriddenIn]; done) | decide +kernel)) (fun m => by first | (simp [entryFrame, mkF, argsToLocals, Value.category]; done) | rfl) ?_
  intro p e s m below meth c T X hx hby hml hZ hown hnm hret hlk eT
  show own_Go p e below (own_Out s (fun v h L => v = some (.ref h0.size) ∧ Fr n0 L ∧ Keep h0 h [] ∧ own_AV Z h h0.size .byte ([own_b x0].map Value.int)) ({ frames := 1, cells := 1, slots := 1, locals := 30 } : Room).cells ({ frames := 1, cells := 1, slots := 1, locals := 30 } : Room).slots) (T.setTop (mkF m 0 #[.val (.ref ca), .val (.int (0 : Int32)), .val (.int (1 : Int32)), .unset, .unset, .unset] []))
  have N0 := Fr.nil n0
  have K0 := Keep.refl h0 []
  refine own_go (fun _ => XS.iloadN X.here hx rfl (hb hby d6_0) rfl) ?_
  show own_Go p e below _ (T.setTop (mkF m 1 #[.val (.ref ca), .val (.int (0 : Int32)), .val (.int (1 : Int32)), .unset, .unset, .unset] [(.int (1 : Int32))]))
  obtain ⟨T1, h1, X1, e1, E1, A1, C1, st1⟩ := own_newAE X hx hZ (aty := .byte) (hw _ (List.mem_of_getElem? (i := 26) rfl)) eT (g := (mkF m 1 #[.val (.ref ca), .val (.int (0 : Int32)), .val (.int (1 : Int32)), .unset, .unset, .unset] [(.int (1 : Int32))])) rfl (hb hby d6_1) rfl 1 1 (by decide) (by decide) (by decide) (by decide) (by decide) (ad := "[B") (by first | rfl | decide)
  obtain ⟨a1, q1⟩ : ∃ z, z = h0.size := ⟨_, rfl⟩
  rw [← q1] at A1 C1 st1
  have ne_ca_a1 : ca ≠ a1 := fun z => absurd c_A0.lt (by rw [z, q1]; exact Nat.lt_irrefl _)
  have c_A_1 := c_A0.ext E1
  have K1 := K0.ext E1
  refine own_go st1 ?_
  show own_Go p e below _ (T1.setTop (mkF m 3 #[.val (.ref ca), .val (.int (0 : Int32)), .val (.int (1 : Int32)), .unset, .unset, .unset] [(.ref a1)]))
  refine own_go (fun _ => XS.astoreN X1.here hx rfl (hb hby d6_3) rfl rfl (l' := #[.val (.ref ca), .val (.int (0 : Int32)), .val (.int (1 : Int32)), .val (.ref a1), .unset, .unset]) rfl) ?_
  show own_Go p e below _ (T1.setTop (mkF m 4 #[.val (.ref ca), .val (.int (0 : Int32)), .val (.int (1 : Int32)), .val (.ref a1), .unset, .unset] []))
  refine own_go (fun _ => XS.aloadN X1.here hx rfl (hb hby d6_4) rfl rfl) ?_
  show own_Go p e below _ (T1.setTop (mkF m 5 #[.val (.ref ca), .val (.int (0 : Int32)), .val (.int (1 : Int32)), .val (.ref a1), .unset, .unset] [(.ref ca)]))
  refine own_go (fun _ => XS.iloadN X1.here hx rfl (hb hby d6_5) rfl) ?_
  show own_Go p e below _ (T1.setTop (mkF m 6 #[.val (.ref ca), .val (.int (0 : Int32)), .val (.int (1 : Int32)), .val (.ref a1), .unset, .unset] [(.int (0 : Int32)), (.ref ca)]))
  refine own_go (fun _ => XS.aloadN X1.here hx rfl (hb hby d6_6) rfl rfl) ?_
  show own_Go p e below _ (T1.setTop (mkF m 7 #[.val (.ref ca), .val (.int (0 : Int32)), .val (.int (1 : Int32)), .val (.ref a1), .unset, .unset] [(.ref a1), (.int (0 : Int32)), (.ref ca)]))
  refine own_go (fun _ => XS.iconst X1.here hx rfl (hb hby d6_7)) ?_
  show own_Go p e below _ (T1.setTop (mkF m 8 #[.val (.ref ca), .val (.int (0 : Int32)), .val (.int (1 : Int32)), .val (.ref a1), .unset, .unset] [(.int (0 : Int32)), (.ref a1), (.int (0 : Int32)), (.ref ca)]))
  refine own_go (fun _ => XS.iloadN X1.here hx rfl (hb hby d6_8) rfl) ?_
  show own_Go p e below _ (T1.setTop (mkF m 9 #[.val (.ref ca), .val (.int (0 : Int32)), .val (.int (1 : Int32)), .val (.ref a1), .unset, .unset] [(.int (1 : Int32)), (.int (0 : Int32)), (.ref a1), (.int (0 : Int32)), (.ref ca)]))
  obtain ⟨_, T2, L2, X2, ⟨rfl, Nc2, Kc2, rA2⟩, st2⟩ := own_callS X1 hx hZ hown (argsL := [(.ref ca), (.int (0 : Int32)), (.ref a1), (.int (0 : Int32)), (.int (1 : Int32))]) (rest := []) (own_comp5_1_con l Z a0 hw ca a1 x0 n0 h1 c_A_1 A1 hx0 ne_ca_a1 (by rw [q1]; exact gn) []) e1 (hw _ (List.mem_of_getElem? (i := 27) rfl)) (hw _ (List.mem_of_getElem? (i := 28) rfl)) (hw _ (List.mem_of_getElem? (i := 24) rfl)) (hw _ (List.mem_of_getElem? (i := 29) rfl)) (by decide) (by decide +kernel : parseMethodDescriptor "([CI[BII)I" = some ⟨[(.array .char), .int, (.array .byte), .int, .int], some .int⟩) rfl (g := (mkF m 9 #[.val (.ref ca), .val (.int (0 : Int32)), .val (.int (1 : Int32)), .val (.ref a1), .unset, .unset] [(.int (1 : Int32)), (.int (0 : Int32)), (.ref a1), (.int (0 : Int32)), (.ref ca)])) rfl (by rw [hml]; rfl) rfl 0 (by show 2 * 0 + _ ≤ _; exact Nat.le_of_eq rfl) (hb hby d6_9) (by decide) (by decide) (by decide) (by decide)
  have N2 := Fr.app N0 Nc2
  have c_A_2 := c_A_1.keep Kc2 (ninS ne_ca_a1 nin0)
  have r_E_2 := C1.keep Kc2
  have K2 := K1.trans Kc2 (allS (Or.inr (Nat.le_of_eq q1.symm)) all0)
  refine own_go st2 ?_
  show own_Go p e below _ (T2.setTop (mkF m 12 #[.val (.ref ca), .val (.int (0 : Int32)), .val (.int (1 : Int32)), .val (.ref a1), .unset, .unset] [(.int (1 : Int32))]))
  refine own_go (fun _ => XS.istore X2.here hx rfl (hb hby d6_12) rfl (l' := #[.val (.ref ca), .val (.int (0 : Int32)), .val (.int (1 : Int32)), .val (.ref a1), .val (.int (1 : Int32)), .unset]) rfl) ?_
  show own_Go p e below _ (T2.setTop (mkF m 14 #[.val (.ref ca), .val (.int (0 : Int32)), .val (.int (1 : Int32)), .val (.ref a1), .val (.int (1 : Int32)), .unset] []))
  refine own_go (fun _ => XS.iload X2.here hx rfl (hb hby d6_14) rfl) ?_
  show own_Go p e below _ (T2.setTop (mkF m 16 #[.val (.ref ca), .val (.int (0 : Int32)), .val (.int (1 : Int32)), .val (.ref a1), .val (.int (1 : Int32)), .unset] [(.int (1 : Int32))]))
  refine own_go (fun _ => XS.iloadN X2.here hx rfl (hb hby d6_16) rfl) ?_
  show own_Go p e below _ (T2.setTop (mkF m 17 #[.val (.ref ca), .val (.int (0 : Int32)), .val (.int (1 : Int32)), .val (.ref a1), .val (.int (1 : Int32)), .unset] [(.int (1 : Int32)), (.int (1 : Int32))]))
  refine own_go (fun _ => XS.icmpYes X2.here hx rfl (pc0 := 17) (pc' := 57) rfl (hb hby d6_17) rfl (XT.ii_eq_t (by decide)) (by decide) (by decide)) ?_
  show own_Go p e below _ (T2.setTop (mkF m 57 #[.val (.ref ca), .val (.int (0 : Int32)), .val (.int (1 : Int32)), .val (.ref a1), .val (.int (1 : Int32)), .unset] []))
  refine own_go (fun _ => XS.aloadN X2.here hx rfl (hb hby d6_57) rfl rfl) ?_
  show own_Go p e below _ (T2.setTop (mkF m 58 #[.val (.ref ca), .val (.int (0 : Int32)), .val (.int (1 : Int32)), .val (.ref a1), .val (.int (1 : Int32)), .unset] [(.ref a1)]))
  exact own_aret X2 hx hlk hret rfl rfl (hb hby d6_58) (by decide) (by decide) ⟨by rw [q1], N2, K2, q1 ▸ rA2⟩

set_option maxRecDepth 65536 in
set_option maxHeartbeats 40000000 in
theorem own_comp3_2_con (l : Launch) (Z : State) (a0 : Array Value) (hw : ∀ d ∈ tables_1, d.before a0 Z = true) (ca : Addr) (x0 x1 : Int32) (n0 : Nat) (h0 : Heap) (c_A0 : own_AV Z h0 ca .char [Value.int x0, Value.int x1]) (hx0 : 0 ≤ x0.toInt ∧ x0.toInt < 256) (hx1 : 0 ≤ x1.toInt ∧ x1.toInt < 256) (gn : n0 ≤ h0.size) (ws : List Jvm.Cond) :
    own_Con l Z (⟨"java/lang/StringUTF16", "compress", "([CII)[B"⟩ : MethodName) jdk_52_method_16_code 6 (some (.array .byte)) ({ frames := 1, cells := 1, slots := 2, locals := 30 } : Room) #[(.ref ca), (.int (0 : Int32)), (.int (2 : Int32))] h0 (fun v h L => v = some (.ref h0.size) ∧ Fr n0 L ∧ Keep h0 h [] ∧ own_AV Z h h0.size .byte ([own_b x0, own_b x1].map Value.int)) ws := by
  refine own_con (F := fun m => (mkF m 0 #[.val (.ref ca), .val (.int (0 : Int32)), .val (.int (2 : Int32)), .unset, .unset, .unset] [])) (own_pn (by first | (simp [plainName, overriddenIn]; done) | decide +kernel)) (fun m => by first | (simp [entryFrame, mkF, argsToLocals, Value.category]; done) | rfl) ?_
  intro p e s m below meth c T X hx hby hml hZ hown hnm hret hlk eT
  show own_Go p e below (own_Out s (fun v h L => v = some (.ref h0.size) ∧ Fr n0 L ∧ Keep h0 h [] ∧ own_AV Z h h0.size .byte ([own_b x0, own_b x1].map Value.int)) ({ frames := 1, cells := 1, slots := 2, locals := 30 } : Room).cells ({ frames := 1, cells := 1, slots := 2, locals := 30 } : Room).slots) (T.setTop (mkF m 0 #[.val (.ref ca), .val (.int (0 : Int32)), .val (.int (2 : Int32)), .unset, .unset, .unset] []))
  have N0 := Fr.nil n0
  have K0 := Keep.refl h0 []
  refine own_go (fun _ => XS.iloadN X.here hx rfl (hb hby d6_0) rfl) ?_
  show own_Go p e below _ (T.setTop (mkF m 1 #[.val (.ref ca), .val (.int (0 : Int32)), .val (.int (2 : Int32)), .unset, .unset, .unset] [(.int (2 : Int32))]))
  obtain ⟨T1, h1, X1, e1, E1, A1, C1, st1⟩ := own_newAE X hx hZ (aty := .byte) (hw _ (List.mem_of_getElem? (i := 26) rfl)) eT (g := (mkF m 1 #[.val (.ref ca), .val (.int (0 : Int32)), .val (.int (2 : Int32)), .unset, .unset, .unset] [(.int (2 : Int32))])) rfl (hb hby d6_1) rfl 2 2 (by decide) (by decide) (by decide) (by decide) (by decide) (ad := "[B") (by first | rfl | decide)
  obtain ⟨a1, q1⟩ : ∃ z, z = h0.size := ⟨_, rfl⟩
  rw [← q1] at A1 C1 st1
  have ne_ca_a1 : ca ≠ a1 := fun z => absurd c_A0.lt (by rw [z, q1]; exact Nat.lt_irrefl _)
  have c_A_1 := c_A0.ext E1
  have K1 := K0.ext E1
  refine own_go st1 ?_
  show own_Go p e below _ (T1.setTop (mkF m 3 #[.val (.ref ca), .val (.int (0 : Int32)), .val (.int (2 : Int32)), .unset, .unset, .unset] [(.ref a1)]))
  refine own_go (fun _ => XS.astoreN X1.here hx rfl (hb hby d6_3) rfl rfl (l' := #[.val (.ref ca), .val (.int (0 : Int32)), .val (.int (2 : Int32)), .val (.ref a1), .unset, .unset]) rfl) ?_
  show own_Go p e below _ (T1.setTop (mkF m 4 #[.val (.ref ca), .val (.int (0 : Int32)), .val (.int (2 : Int32)), .val (.ref a1), .unset, .unset] []))
  refine own_go (fun _ => XS.aloadN X1.here hx rfl (hb hby d6_4) rfl rfl) ?_
  show own_Go p e below _ (T1.setTop (mkF m 5 #[.val (.ref ca), .val (.int (0 : Int32)), .val (.int (2 : Int32)), .val (.ref a1), .unset, .unset] [(.ref ca)]))
  refine own_go (fun _ => XS.iloadN X1.here hx rfl (hb hby d6_5) rfl) ?_
  show own_Go p e below _ (T1.setTop (mkF m 6 #[.val (.ref ca), .val (.int (0 : Int32)), .val (.int (2 : Int32)), .val (.ref a1), .unset, .unset] [(.int (0 : Int32)), (.ref ca)]))
  refine own_go (fun _ => XS.aloadN X1.here hx rfl (hb hby d6_6) rfl rfl) ?_
  show own_Go p e below _ (T1.setTop (mkF m 7 #[.val (.ref ca), .val (.int (0 : Int32)), .val (.int (2 : Int32)), .val (.ref a1), .unset, .unset] [(.ref a1), (.int (0 : Int32)), (.ref ca)]))
  refine own_go (fun _ => XS.iconst X1.here hx rfl (hb hby d6_7)) ?_
  show own_Go p e below _ (T1.setTop (mkF m 8 #[.val (.ref ca), .val (.int (0 : Int32)), .val (.int (2 : Int32)), .val (.ref a1), .unset, .unset] [(.int (0 : Int32)), (.ref a1), (.int (0 : Int32)), (.ref ca)]))
  refine own_go (fun _ => XS.iloadN X1.here hx rfl (hb hby d6_8) rfl) ?_
  show own_Go p e below _ (T1.setTop (mkF m 9 #[.val (.ref ca), .val (.int (0 : Int32)), .val (.int (2 : Int32)), .val (.ref a1), .unset, .unset] [(.int (2 : Int32)), (.int (0 : Int32)), (.ref a1), (.int (0 : Int32)), (.ref ca)]))
  obtain ⟨_, T2, L2, X2, ⟨rfl, Nc2, Kc2, rA2⟩, st2⟩ := own_callS X1 hx hZ hown (argsL := [(.ref ca), (.int (0 : Int32)), (.ref a1), (.int (0 : Int32)), (.int (2 : Int32))]) (rest := []) (own_comp5_2_con l Z a0 hw ca a1 x0 x1 n0 h1 c_A_1 A1 hx0 hx1 ne_ca_a1 (by rw [q1]; exact gn) []) e1 (hw _ (List.mem_of_getElem? (i := 27) rfl)) (hw _ (List.mem_of_getElem? (i := 28) rfl)) (hw _ (List.mem_of_getElem? (i := 24) rfl)) (hw _ (List.mem_of_getElem? (i := 29) rfl)) (by decide) (by decide +kernel : parseMethodDescriptor "([CI[BII)I" = some ⟨[(.array .char), .int, (.array .byte), .int, .int], some .int⟩) rfl (g := (mkF m 9 #[.val (.ref ca), .val (.int (0 : Int32)), .val (.int (2 : Int32)), .val (.ref a1), .unset, .unset] [(.int (2 : Int32)), (.int (0 : Int32)), (.ref a1), (.int (0 : Int32)), (.ref ca)])) rfl (by rw [hml]; rfl) rfl 0 (by show 2 * 0 + _ ≤ _; exact Nat.le_of_eq rfl) (hb hby d6_9) (by decide) (by decide) (by decide) (by decide)
  have N2 := Fr.app N0 Nc2
  have c_A_2 := c_A_1.keep Kc2 (ninS ne_ca_a1 nin0)
  have r_E_2 := C1.keep Kc2
  have K2 := K1.trans Kc2 (allS (Or.inr (Nat.le_of_eq q1.symm)) all0)
  refine own_go st2 ?_
  show own_Go p e below _ (T2.setTop (mkF m 12 #[.val (.ref ca), .val (.int (0 : Int32)), .val (.int (2 : Int32)), .val (.ref a1), .unset, .unset] [(.int (2 : Int32))]))
  refine own_go (fun _ => XS.istore X2.here hx rfl (hb hby d6_12) rfl (l' := #[.val (.ref ca), .val (.int (0 : Int32)), .val (.int (2 : Int32)), .val (.ref a1), .val (.int (2 : Int32)), .unset]) rfl) ?_
  show own_Go p e below _ (T2.setTop (mkF m 14 #[.val (.ref ca), .val (.int (0 : Int32)), .val (.int (2 : Int32)), .val (.ref a1), .val (.int (2 : Int32)), .unset] []))
  refine own_go (fun _ => XS.iload X2.here hx rfl (hb hby d6_14) rfl) ?_
  show own_Go p e below _ (T2.setTop (mkF m 16 #[.val (.ref ca), .val (.int (0 : Int32)), .val (.int (2 : Int32)), .val (.ref a1), .val (.int (2 : Int32)), .unset] [(.int (2 : Int32))]))
  refine own_go (fun _ => XS.iloadN X2.here hx rfl (hb hby d6_16) rfl) ?_
  show own_Go p e below _ (T2.setTop (mkF m 17 #[.val (.ref ca), .val (.int (0 : Int32)), .val (.int (2 : Int32)), .val (.ref a1), .val (.int (2 : Int32)), .unset] [(.int (2 : Int32)), (.int (2 : Int32))]))
  refine own_go (fun _ => XS.icmpYes X2.here hx rfl (pc0 := 17) (pc' := 57) rfl (hb hby d6_17) rfl (XT.ii_eq_t (by decide)) (by decide) (by decide)) ?_
  show own_Go p e below _ (T2.setTop (mkF m 57 #[.val (.ref ca), .val (.int (0 : Int32)), .val (.int (2 : Int32)), .val (.ref a1), .val (.int (2 : Int32)), .unset] []))
  refine own_go (fun _ => XS.aloadN X2.here hx rfl (hb hby d6_57) rfl rfl) ?_
  show own_Go p e below _ (T2.setTop (mkF m 58 #[.val (.ref ca), .val (.int (0 : Int32)), .val (.int (2 : Int32)), .val (.ref a1), .val (.int (2 : Int32)), .unset] [(.ref a1)]))
  exact own_aret X2 hx hlk hret rfl rfl (hb hby d6_58) (by decide) (by decide) ⟨by rw [q1], N2, K2, q1 ▸ rA2⟩
theorem d4_0 : decode jdk_42_method_149_code 0 = .ok (.aload_n 0, 1) := by decide +kernel
theorem d4_1 : decode jdk_42_method_149_code 1 = .ok (.invokespecial 1, 3) := by decide +kernel
theorem d4_4 : decode jdk_42_method_149_code 4 = .ok (.iload_n 3, 1) := by decide +kernel
theorem d4_5 : decode jdk_42_method_149_code 5 = .ok (.ifCond .ne 22, 3) := by decide +kernel
theorem d4_27 : decode jdk_42_method_149_code 27 = .ok (.getstatic 38, 3) := by decide +kernel
theorem d4_30 : decode jdk_42_method_149_code 30 = .ok (.ifCond .eq 28, 3) := by decide +kernel
theorem d4_33 : decode jdk_42_method_149_code 33 = .ok (.aload_n 1, 1) := by decide +kernel
theorem d4_34 : decode jdk_42_method_149_code 34 = .ok (.iload_n 2, 1) := by decide +kernel
theorem d4_35 : decode jdk_42_method_149_code 35 = .ok (.iload_n 3, 1) := by decide +kernel
theorem d4_36 : decode jdk_42_method_149_code 36 = .ok (.invokestatic 177, 3) := by decide +kernel
theorem d4_39 : decode jdk_42_method_149_code 39 = .ok (.astore 5, 2) := by decide +kernel
theorem d4_41 : decode jdk_42_method_149_code 41 = .ok (.aload_n 0, 1) := by decide +kernel
theorem d4_42 : decode jdk_42_method_149_code 42 = .ok (.aload 5, 2) := by decide +kernel
theorem d4_44 : decode jdk_42_method_149_code 44 = .ok (.iload_n 3, 1) := by decide +kernel
theorem d4_45 : decode jdk_42_method_149_code 45 = .ok (.invokestatic 47, 3) := by decide +kernel
theorem d4_48 : decode jdk_42_method_149_code 48 = .ok (.putfield 15, 3) := by decide +kernel
theorem d4_51 : decode jdk_42_method_149_code 51 = .ok (.aload_n 0, 1) := by decide +kernel
theorem d4_52 : decode jdk_42_method_149_code 52 = .ok (.aload 5, 2) := by decide +kernel
theorem d4_54 : decode jdk_42_method_149_code 54 = .ok (.putfield 9, 3) := by decide +kernel
theorem d4_57 : decode jdk_42_method_149_code 57 = .ok (.return_, 1) := by decide +kernel
set_option maxRecDepth 65536 in
set_option maxHeartbeats 40000000 in
theorem own_init4_1_con (l : Launch) (Z : State) (a0 : Array Value) (hw : ∀ d ∈ tables_1, d.before a0 Z = true) (a ca : Addr) (zc x0 : Int32) (n0 : Nat) (h0 : Heap) (o_E0 : Exa Z h0 a "java/lang/String") (o_value0 : Fld Z h0 a "java/lang/String" "value" "[B" .null) (o_coder0 : Fld Z h0 a "java/lang/String" "coder" "B" (.int (0 : Int32))) (cs_S0 : Sta Z h0 "java/lang/String" "COMPACT_STRINGS" "Z" (.int zc)) (hzc : ¬ zc = 0) (c_A0 : own_AV Z h0 ca .char [Value.int x0]) (hx0 : 0 ≤ x0.toInt ∧ x0.toInt < 256) (ne_a_ca : a ≠ ca) (ga : n0 ≤ a) (gn : n0 ≤ h0.size) (ws : List Jvm.Cond) :
    own_Con l Z (⟨"java/lang/String", "<init>", "([CIILjava/lang/Void;)V"⟩ : MethodName) jdk_42_method_149_code 6 none ({ frames := 2, cells := 1, slots := 1, locals := 60 } : Room) #[(.ref a), (.ref ca), (.int (0 : Int32)), (.int (1 : Int32)), .null] h0 (fun v h L => v = none ∧ Fr n0 L ∧ Keep h0 h [a] ∧ own_Str Z h a [own_b x0]) ws := by
  refine own_con (F := fun m => (mkF m 0 #[.val (.ref a), .val (.ref ca), .val (.int (0 : Int32)), .val (.int (1 : Int32)), .val .null, .unset] [])) (own_pn (by first | (simp [plainName, overriddenIn]; done) | decide +kernel)) (fun m => by first | (simp [entryFrame, mkF, argsToLocals, Value.category]; done) | rfl) ?_
  intro p e s m below meth c T X hx hby hml hZ hown hnm hret hlk eT
  show own_Go p e below (own_Out s (fun v h L => v = none ∧ Fr n0 L ∧ Keep h0 h [a] ∧ own_Str Z h a [own_b x0]) ({ frames := 2, cells := 1, slots := 1, locals := 60 } : Room).cells ({ frames := 2, cells := 1, slots := 1, locals := 60 } : Room).slots) (T.setTop (mkF m 0 #[.val (.ref a), .val (.ref ca), .val (.int (0 : Int32)), .val (.int (1 : Int32)), .val .null, .unset] []))
  have N0 := Fr.nil n0
  have K0 := Keep.refl h0 [a]
  refine own_go (fun _ => XS.aloadN X.here hx rfl (hb hby d4_0) rfl rfl) ?_
  show own_Go p e below _ (T.setTop (mkF m 1 #[.val (.ref a), .val (.ref ca), .val (.int (0 : Int32)), .val (.int (1 : Int32)), .val .null, .unset] [(.ref a)]))
  obtain ⟨T1, X1, e1, st1⟩ := initO X hx hZ hown (hw _ (List.mem_of_getElem? (i := 18) rfl)) (hw _ (List.mem_of_getElem? (i := 19) rfl)) (hw _ (List.mem_of_getElem? (i := 20) rfl)) eT (g := (mkF m 1 #[.val (.ref a), .val (.ref ca), .val (.int (0 : Int32)), .val (.int (1 : Int32)), .val .null, .unset] [(.ref a)])) rfl (by rw [hml]; rfl) rfl (hb hby d4_1) (by decide) (W := 0) (by show 2 * 0 + _ ≤ _; exact Nat.le_of_eq rfl) (by decide)
  refine own_go st1 ?_
  show own_Go p e below _ (T1.setTop (mkF m 4 #[.val (.ref a), .val (.ref ca), .val (.int (0 : Int32)), .val (.int (1 : Int32)), .val .null, .unset] []))
  refine own_go (fun _ => XS.iloadN X1.here hx rfl (hb hby d4_4) rfl) ?_
  show own_Go p e below _ (T1.setTop (mkF m 5 #[.val (.ref a), .val (.ref ca), .val (.int (0 : Int32)), .val (.int (1 : Int32)), .val .null, .unset] [(.int (1 : Int32))]))
  refine own_go (fun _ => XS.ifYes X1.here hx rfl (pc0 := 5) (pc' := 27) rfl (hb hby d4_5) rfl (XT.i0_ne_t (by decide)) (by decide) (by decide)) ?_
  show own_Go p e below _ (T1.setTop (mkF m 27 #[.val (.ref a), .val (.ref ca), .val (.int (0 : Int32)), .val (.int (1 : Int32)), .val .null, .unset] []))
  obtain ⟨T2, X2, e2, st2⟩ := getS2 X1 hx hZ hown (host := "") (Or.inl (hw _ (List.mem_of_getElem? (i := 21) rfl))) Via.refl e1 cs_S0 (g := (mkF m 27 #[.val (.ref a), .val (.ref ca), .val (.int (0 : Int32)), .val (.int (1 : Int32)), .val .null, .unset] [])) rfl (hb hby d4_27)
  refine own_go st2 ?_
  show own_Go p e below _ (T2.setTop (mkF m 30 #[.val (.ref a), .val (.ref ca), .val (.int (0 : Int32)), .val (.int (1 : Int32)), .val .null, .unset] [(.int zc)]))
  refine own_go (fun _ => XS.ifNo X2.here hx rfl (hb hby d4_30) rfl (XT.i0_eq_f hzc)) ?_
  show own_Go p e below _ (T2.setTop (mkF m 33 #[.val (.ref a), .val (.ref ca), .val (.int (0 : Int32)), .val (.int (1 : Int32)), .val .null, .unset] []))
  refine own_go (fun _ => XS.aloadN X2.here hx rfl (hb hby d4_33) rfl rfl) ?_
  show own_Go p e below _ (T2.setTop (mkF m 34 #[.val (.ref a), .val (.ref ca), .val (.int (0 : Int32)), .val (.int (1 : Int32)), .val .null, .unset] [(.ref ca)]))
  refine own_go (fun _ => XS.iloadN X2.here hx rfl (hb hby d4_34) rfl) ?_
  show own_Go p e below _ (T2.setTop (mkF m 35 #[.val (.ref a), .val (.ref ca), .val (.int (0 : Int32)), .val (.int (1 : Int32)), .val .null, .unset] [(.int (0 : Int32)), (.ref ca)]))
  refine own_go (fun _ => XS.iloadN X2.here hx rfl (hb hby d4_35) rfl) ?_
  show own_Go p e below _ (T2.setTop (mkF m 36 #[.val (.ref a), .val (.ref ca), .val (.int (0 : Int32)), .val (.int (1 : Int32)), .val .null, .unset] [(.int (1 : Int32)), (.int (0 : Int32)), (.ref ca)]))
  obtain ⟨_, T3, L3, X3, ⟨rfl, Nc3, Kc3, rA3⟩, st3⟩ := own_callS X2 hx hZ hown (argsL := [(.ref ca), (.int (0 : Int32)), (.int (1 : Int32))]) (rest := []) (own_comp3_1_con l Z a0 hw ca x0 n0 h0 c_A0 hx0 gn []) e2 (hw _ (List.mem_of_getElem? (i := 22) rfl)) (hw _ (List.mem_of_getElem? (i := 23) rfl)) (hw _ (List.mem_of_getElem? (i := 24) rfl)) (hw _ (List.mem_of_getElem? (i := 25) rfl)) (by decide) (by decide +kernel : parseMethodDescriptor "([CII)[B" = some ⟨[(.array .char), .int, .int], (some (.array .byte))⟩) rfl (g := (mkF m 36 #[.val (.ref a), .val (.ref ca), .val (.int (0 : Int32)), .val (.int (1 : Int32)), .val .null, .unset] [(.int (1 : Int32)), (.int (0 : Int32)), (.ref ca)])) rfl (by rw [hml]; rfl) rfl 0 (by show 2 * 0 + _ ≤ _; exact Nat.le_of_eq rfl) (hb hby d4_36) (by decide) (by decide) (by decide) (by decide)
  have N3 := Fr.app N0 Nc3
  have o_E_3 := o_E0.keep Kc3
  have o_value_3 := o_value0.keep Kc3 nin0
  have o_coder_3 := o_coder0.keep Kc3 nin0
  have c_A_3 := c_A0.keep Kc3 nin0
  have cs_3 := own_Sta_keep0 cs_S0 Kc3
  have K3 := K0.trans Kc3 all0
  refine own_go st3 ?_
  show own_Go p e below _ (T3.setTop (mkF m 39 #[.val (.ref a), .val (.ref ca), .val (.int (0 : Int32)), .val (.int (1 : Int32)), .val .null, .unset] [(.ref h0.size)]))
  obtain ⟨rb, qb⟩ : ∃ z, z = h0.size := ⟨_, rfl⟩
  rw [← qb] at rA3
  have ne_a_rb : a ≠ rb := fun z => absurd o_E0.lt (by rw [z, qb]; exact Nat.lt_irrefl _)
  show own_Go p e below _ (T3.setTop (mkF m 39 #[.val (.ref a), .val (.ref ca), .val (.int (0 : Int32)), .val (.int (1 : Int32)), .val .null, .unset] [(.ref h0.size)]))
  rw [← qb]
  show own_Go p e below _ (T3.setTop (mkF m 39 #[.val (.ref a), .val (.ref ca), .val (.int (0 : Int32)), .val (.int (1 : Int32)), .val .null, .unset] [(.ref rb)]))
  refine own_go (fun _ => XS.astore X3.here hx rfl (hb hby d4_39) rfl rfl (l' := #[.val (.ref a), .val (.ref ca), .val (.int (0 : Int32)), .val (.int (1 : Int32)), .val .null, .val (.ref rb)]) rfl) ?_
  show own_Go p e below _ (T3.setTop (mkF m 41 #[.val (.ref a), .val (.ref ca), .val (.int (0 : Int32)), .val (.int (1 : Int32)), .val .null, .val (.ref rb)] []))
  refine own_go (fun _ => XS.aloadN X3.here hx rfl (hb hby d4_41) rfl rfl) ?_
  show own_Go p e below _ (T3.setTop (mkF m 42 #[.val (.ref a), .val (.ref ca), .val (.int (0 : Int32)), .val (.int (1 : Int32)), .val .null, .val (.ref rb)] [(.ref a)]))
  refine own_go (fun _ => XS.aload X3.here hx rfl (hb hby d4_42) rfl rfl) ?_
  show own_Go p e below _ (T3.setTop (mkF m 44 #[.val (.ref a), .val (.ref ca), .val (.int (0 : Int32)), .val (.int (1 : Int32)), .val .null, .val (.ref rb)] [(.ref rb), (.ref a)]))
  refine own_go (fun _ => XS.iloadN X3.here hx rfl (hb hby d4_44) rfl) ?_
  show own_Go p e below _ (T3.setTop (mkF m 45 #[.val (.ref a), .val (.ref ca), .val (.int (0 : Int32)), .val (.int (1 : Int32)), .val .null, .val (.ref rb)] [(.int (1 : Int32)), (.ref rb), (.ref a)]))
  obtain ⟨_, T4, L4, X4, ⟨rfl, eh4, rfl⟩, st4⟩ := own_callS X3 hx hZ hown (argsL := [(.ref rb), (.int (1 : Int32))]) (rest := [(.ref a)]) (own_coder_con l Z a0 hw rb (1 : Int32) ([own_b x0].map Value.int) T3.heap rA3 (by first | rfl | simp) []) rfl (hw _ (List.mem_of_getElem? (i := 30) rfl)) (hw _ (List.mem_of_getElem? (i := 31) rfl)) (hw _ (List.mem_of_getElem? (i := 24) rfl)) (hw _ (List.mem_of_getElem? (i := 32) rfl)) (by decide) (by decide +kernel : parseMethodDescriptor "([BI)B" = some ⟨[(.array .byte), .int], some .byte⟩) rfl (g := (mkF m 45 #[.val (.ref a), .val (.ref ca), .val (.int (0 : Int32)), .val (.int (1 : Int32)), .val .null, .val (.ref rb)] [(.int (1 : Int32)), (.ref rb), (.ref a)])) rfl (by rw [hml]; rfl) rfl 1 (by show 2 * 0 + _ ≤ _; exact Nat.le_of_eq rfl) (hb hby d4_45) (by decide) (by decide) (by decide) (by decide)
  rw [List.append_nil] at X4
  refine own_go st4 ?_
  show own_Go p e below _ (T4.setTop (mkF m 48 #[.val (.ref a), .val (.ref ca), .val (.int (0 : Int32)), .val (.int (1 : Int32)), .val .null, .val (.ref rb)] [(.int (0 : Int32)), (.ref a)]))
  obtain ⟨T5, h5, X5, e5, W5, st5⟩ := putF X4 hx hZ hown (host := "") (Or.inl (hw _ (List.mem_of_getElem? (i := 33) rfl))) Via.refl eh4 o_coder_3 o_E_3 (Or.inr ⟨(hw _ (List.mem_of_getElem? (i := 34) rfl)), rfl, hnm⟩) (hw _ (List.mem_of_getElem? (i := 8) rfl)) (ty := .byte) (by decide) rfl rfl (g := (mkF m 48 #[.val (.ref a), .val (.ref ca), .val (.int (0 : Int32)), .val (.int (1 : Int32)), .val .null, .val (.ref rb)] [(.int (0 : Int32)), (.ref a)])) rfl rfl (hb hby d4_48)
  have N5 := Fr.snoc X5 N3 ga
  have o_E_5 := o_E_3.wr W5
  have o_value_5 := o_value_3.other W5 (Or.inr (slot_ne (t := (.array .byte)) (t' := .byte) (Or.inr (hw _ (List.mem_of_getElem? (i := 36) rfl))) (Or.inr (hw _ (List.mem_of_getElem? (i := 34) rfl))) (by decide) (by decide) (by decide)))
  have o_coder_5 := o_coder_3.same W5
  have cs_5 := cs_3.wr W5
  have r_A_5 := rA3.other W5 (Ne.symm ne_a_rb)
  have K5 := K3.wr W5 (Or.inl (List.mem_of_getElem? (i := 0) rfl))
  refine own_go st5 ?_
  show own_Go p e below _ (T5.setTop (mkF m 51 #[.val (.ref a), .val (.ref ca), .val (.int (0 : Int32)), .val (.int (1 : Int32)), .val .null, .val (.ref rb)] []))
  refine own_go (fun _ => XS.aloadN X5.here hx rfl (hb hby d4_51) rfl rfl) ?_
  show own_Go p e below _ (T5.setTop (mkF m 52 #[.val (.ref a), .val (.ref ca), .val (.int (0 : Int32)), .val (.int (1 : Int32)), .val .null, .val (.ref rb)] [(.ref a)]))
  refine own_go (fun _ => XS.aload X5.here hx rfl (hb hby d4_52) rfl rfl) ?_
  show own_Go p e below _ (T5.setTop (mkF m 54 #[.val (.ref a), .val (.ref ca), .val (.int (0 : Int32)), .val (.int (1 : Int32)), .val .null, .val (.ref rb)] [(.ref rb), (.ref a)]))
  obtain ⟨T6, h6, X6, e6, W6, st6⟩ := putF X5 hx hZ hown (host := "") (Or.inl (hw _ (List.mem_of_getElem? (i := 35) rfl))) Via.refl e5 o_value_5 o_E_5 (Or.inr ⟨(hw _ (List.mem_of_getElem? (i := 36) rfl)), rfl, hnm⟩) (hw _ (List.mem_of_getElem? (i := 8) rfl)) (ty := (.array .byte)) (by decide) rfl rfl (g := (mkF m 54 #[.val (.ref a), .val (.ref ca), .val (.int (0 : Int32)), .val (.int (1 : Int32)), .val .null, .val (.ref rb)] [(.ref rb), (.ref a)])) rfl rfl (hb hby d4_54)
  have N6 := Fr.snoc X6 N5 ga
  have o_E_6 := o_E_5.wr W6
  have o_value_6 := o_value_5.same W6
  have o_coder_6 := o_coder_5.other W6 (Or.inr (slot_ne (t := .byte) (t' := (.array .byte)) (Or.inr (hw _ (List.mem_of_getElem? (i := 34) rfl))) (Or.inr (hw _ (List.mem_of_getElem? (i := 36) rfl))) (by decide) (by decide) (by decide)))
  have cs_6 := cs_5.wr W6
  have r_A_6 := r_A_5.other W6 (Ne.symm ne_a_rb)
  have K6 := K5.wr W6 (Or.inl (List.mem_of_getElem? (i := 0) rfl))
  refine own_go st6 ?_
  show own_Go p e below _ (T6.setTop (mkF m 57 #[.val (.ref a), .val (.ref ca), .val (.int (0 : Int32)), .val (.int (1 : Int32)), .val .null, .val (.ref rb)] []))
  exact own_vret X6 hx hlk hret (hb hby d4_57) (by decide) (by decide) (by rw [e6]; exact ⟨rfl, N6, K6, o_E_6, rb, o_value_6, o_coder_6, r_A_6⟩)

set_option maxRecDepth 65536 in
set_option maxHeartbeats 40000000 in
theorem own_init4_2_con (l : Launch) (Z : State) (a0 : Array Value) (hw : ∀ d ∈ tables_1, d.before a0 Z = true) (a ca : Addr) (zc x0 x1 : Int32) (n0 : Nat) (h0 : Heap) (o_E0 : Exa Z h0 a "java/lang/String") (o_value0 : Fld Z h0 a "java/lang/String" "value" "[B" .null) (o_coder0 : Fld Z h0 a "java/lang/String" "coder" "B" (.int (0 : Int32))) (cs_S0 : Sta Z h0 "java/lang/String" "COMPACT_STRINGS" "Z" (.int zc)) (hzc : ¬ zc = 0) (c_A0 : own_AV Z h0 ca .char [Value.int x0, Value.int x1]) (hx0 : 0 ≤ x0.toInt ∧ x0.toInt < 256) (hx1 : 0 ≤ x1.toInt ∧ x1.toInt < 256) (ne_a_ca : a ≠ ca) (ga : n0 ≤ a) (gn : n0 ≤ h0.size) (ws : List Jvm.Cond) :
    own_Con l Z (⟨"java/lang/String", "<init>", "([CIILjava/lang/Void;)V"⟩ : MethodName) jdk_42_method_149_code 6 none ({ frames := 2, cells := 1, slots := 2, locals := 60 } : Room) #[(.ref a), (.ref ca), (.int (0 : Int32)), (.int (2 : Int32)), .null] h0 (fun v h L => v = none ∧ Fr n0 L ∧ Keep h0 h [a] ∧ own_Str Z h a [own_b x0, own_b x1]) ws := by
  refine own_con (F := fun m => (mkF m 0 #[.val (.ref a), .val (.ref ca), .val (.int (0 : Int32)), .val (.int (2 : Int32)), .val .null, .unset] [])) (own_pn (by first | (simp [plainName, overriddenIn]; done) | decide +kernel)) (fun m => by first | (simp [entryFrame, mkF, argsToLocals, Value.category]; done) | rfl) ?_
  intro p e s m below meth c T X hx hby hml hZ hown hnm hret hlk eT
  show own_Go p e below (own_Out s (fun v h L => v = none ∧ Fr n0 L ∧ Keep h0 h [a] ∧ own_Str Z h a [own_b x0, own_b x1]) ({ frames := 2, cells := 1, slots := 2, locals := 60 } : Room).cells ({ frames := 2, cells := 1, slots := 2, locals := 60 } : Room).slots) (T.setTop (mkF m 0 #[.val (.ref a), .val (.ref ca), .val (.int (0 : Int32)), .val (.int (2 : Int32)), .val .null, .unset] []))
  have N0 := Fr.nil n0
  have K0 := Keep.refl h0 [a]
  refine own_go (fun _ => XS.aloadN X.here hx rfl (hb hby d4_0) rfl rfl) ?_
  show own_Go p e below _ (T.setTop (mkF m 1 #[.val (.ref a), .val (.ref ca), .val (.int (0 : Int32)), .val (.int (2 : Int32)), .val .null, .unset] [(.ref a)]))
  obtain ⟨T1, X1, e1, st1⟩ := initO X hx hZ hown (hw _ (List.mem_of_getElem? (i := 18) rfl)) (hw _ (List.mem_of_getElem? (i := 19) rfl)) (hw _ (List.mem_of_getElem? (i := 20) rfl)) eT (g := (mkF m 1 #[.val (.ref a), .val (.ref ca), .val (.int (0 : Int32)), .val (.int (2 : Int32)), .val .null, .unset] [(.ref a)])) rfl (by rw [hml]; rfl) rfl (hb hby d4_1) (by decide) (W := 0) (by show 2 * 0 + _ ≤ _; exact Nat.le_of_eq rfl) (by decide)
  refine own_go st1 ?_
  show own_Go p e below _ (T1.setTop (mkF m 4 #[.val (.ref a), .val (.ref ca), .val (.int (0 : Int32)), .val (.int (2 : Int32)), .val .null, .unset] []))
  refine own_go (fun _ => XS.iloadN X1.here hx rfl (hb hby d4_4) rfl) ?_
  show own_Go p e below _ (T1.setTop (mkF m 5 #[.val (.ref a), .val (.ref ca), .val (.int (0 : Int32)), .val (.int (2 : Int32)), .val .null, .unset] [(.int (2 : Int32))]))
  refine own_go (fun _ => XS.ifYes X1.here hx rfl (pc0 := 5) (pc' := 27) rfl (hb hby d4_5) rfl (XT.i0_ne_t (by decide)) (by decide) (by decide)) ?_
  show own_Go p e below _ (T1.setTop (mkF m 27 #[.val (.ref a), .val (.ref ca), .val (.int (0 : Int32)), .val (.int (2 : Int32)), .val .null, .unset] []))
  obtain ⟨T2, X2, e2, st2⟩ := getS2 X1 hx hZ hown (host := "") (Or.inl (hw _ (List.mem_of_getElem? (i := 21) rfl))) Via.refl e1 cs_S0 (g := (mkF m 27 #[.val (.ref a), .val (.ref ca), .val (.int (0 : Int32)), .val (.int (2 : Int32)), .val .null, .unset] [])) rfl (hb hby d4_27)
  refine own_go st2 ?_
  show own_Go p e below _ (T2.setTop (mkF m 30 #[.val (.ref a), .val (.ref ca), .val (.int (0 : Int32)), .val (.int (2 : Int32)), .val .null, .unset] [(.int zc)]))
  refine own_go (fun _ => XS.ifNo X2.here hx rfl (hb hby d4_30) rfl (XT.i0_eq_f hzc)) ?_
  show own_Go p e below _ (T2.setTop (mkF m 33 #[.val (.ref a), .val (.ref ca), .val (.int (0 : Int32)), .val (.int (2 : Int32)), .val .null, .unset] []))
  refine own_go (fun _ => XS.aloadN X2.here hx rfl (hb hby d4_33) rfl rfl) ?_
  show own_Go p e below _ (T2.setTop (mkF m 34 #[.val (.ref a), .val (.ref ca), .val (.int (0 : Int32)), .val (.int (2 : Int32)), .val .null, .unset] [(.ref ca)]))
  refine own_go (fun _ => XS.iloadN X2.here hx rfl (hb hby d4_34) rfl) ?_
  show own_Go p e below _ (T2.setTop (mkF m 35 #[.val (.ref a), .val (.ref ca), .val (.int (0 : Int32)), .val (.int (2 : Int32)), .val .null, .unset] [(.int (0 : Int32)), (.ref ca)]))
  refine own_go (fun _ => XS.iloadN X2.here hx rfl (hb hby d4_35) rfl) ?_
  show own_Go p e below _ (T2.setTop (mkF m 36 #[.val (.ref a), .val (.ref ca), .val (.int (0 : Int32)), .val (.int (2 : Int32)), .val .null, .unset] [(.int (2 : Int32)), (.int (0 : Int32)), (.ref ca)]))
  obtain ⟨_, T3, L3, X3, ⟨rfl, Nc3, Kc3, rA3⟩, st3⟩ := own_callS X2 hx hZ hown (argsL := [(.ref ca), (.int (0 : Int32)), (.int (2 : Int32))]) (rest := []) (own_comp3_2_con l Z a0 hw ca x0 x1 n0 h0 c_A0 hx0 hx1 gn []) e2 (hw _ (List.mem_of_getElem? (i := 22) rfl)) (hw _ (List.mem_of_getElem? (i := 23) rfl)) (hw _ (List.mem_of_getElem? (i := 24) rfl)) (hw _ (List.mem_of_getElem? (i := 25) rfl)) (by decide) (by decide +kernel : parseMethodDescriptor "([CII)[B" = some ⟨[(.array .char), .int, .int], (some (.array .byte))⟩) rfl (g := (mkF m 36 #[.val (.ref a), .val (.ref ca), .val (.int (0 : Int32)), .val (.int (2 : Int32)), .val .null, .unset] [(.int (2 : Int32)), (.int (0 : Int32)), (.ref ca)])) rfl (by rw [hml]; rfl) rfl 0 (by show 2 * 0 + _ ≤ _; exact Nat.le_of_eq rfl) (hb hby d4_36) (by decide) (by decide) (by decide) (by decide)
  have N3 := Fr.app N0 Nc3
  have o_E_3 := o_E0.keep Kc3
  have o_value_3 := o_value0.keep Kc3 nin0
  have o_coder_3 := o_coder0.keep Kc3 nin0
  have c_A_3 := c_A0.keep Kc3 nin0
  have cs_3 := own_Sta_keep0 cs_S0 Kc3
  have K3 := K0.trans Kc3 all0
  refine own_go st3 ?_
  show own_Go p e below _ (T3.setTop (mkF m 39 #[.val (.ref a), .val (.ref ca), .val (.int (0 : Int32)), .val (.int (2 : Int32)), .val .null, .unset] [(.ref h0.size)]))
  obtain ⟨rb, qb⟩ : ∃ z, z = h0.size := ⟨_, rfl⟩
  rw [← qb] at rA3
  have ne_a_rb : a ≠ rb := fun z => absurd o_E0.lt (by rw [z, qb]; exact Nat.lt_irrefl _)
  show own_Go p e below _ (T3.setTop (mkF m 39 #[.val (.ref a), .val (.ref ca), .val (.int (0 : Int32)), .val (.int (2 : Int32)), .val .null, .unset] [(.ref h0.size)]))
  rw [← qb]
  show own_Go p e below _ (T3.setTop (mkF m 39 #[.val (.ref a), .val (.ref ca), .val (.int (0 : Int32)), .val (.int (2 : Int32)), .val .null, .unset] [(.ref rb)]))
  refine own_go (fun _ => XS.astore X3.here hx rfl (hb hby d4_39) rfl rfl (l' := #[.val (.ref a), .val (.ref ca), .val (.int (0 : Int32)), .val (.int (2 : Int32)), .val .null, .val (.ref rb)]) rfl) ?_
  show own_Go p e below _ (T3.setTop (mkF m 41 #[.val (.ref a), .val (.ref ca), .val (.int (0 : Int32)), .val (.int (2 : Int32)), .val .null, .val (.ref rb)] []))
  refine own_go (fun _ => XS.aloadN X3.here hx rfl (hb hby d4_41) rfl rfl) ?_
  show own_Go p e below _ (T3.setTop (mkF m 42 #[.val (.ref a), .val (.ref ca), .val (.int (0 : Int32)), .val (.int (2 : Int32)), .val .null, .val (.ref rb)] [(.ref a)]))
  refine own_go (fun _ => XS.aload X3.here hx rfl (hb hby d4_42) rfl rfl) ?_
  show own_Go p e below _ (T3.setTop (mkF m 44 #[.val (.ref a), .val (.ref ca), .val (.int (0 : Int32)), .val (.int (2 : Int32)), .val .null, .val (.ref rb)] [(.ref rb), (.ref a)]))
  refine own_go (fun _ => XS.iloadN X3.here hx rfl (hb hby d4_44) rfl) ?_
  show own_Go p e below _ (T3.setTop (mkF m 45 #[.val (.ref a), .val (.ref ca), .val (.int (0 : Int32)), .val (.int (2 : Int32)), .val .null, .val (.ref rb)] [(.int (2 : Int32)), (.ref rb), (.ref a)]))
  obtain ⟨_, T4, L4, X4, ⟨rfl, eh4, rfl⟩, st4⟩ := own_callS X3 hx hZ hown (argsL := [(.ref rb), (.int (2 : Int32))]) (rest := [(.ref a)]) (own_coder_con l Z a0 hw rb (2 : Int32) ([own_b x0, own_b x1].map Value.int) T3.heap rA3 (by first | rfl | simp) []) rfl (hw _ (List.mem_of_getElem? (i := 30) rfl)) (hw _ (List.mem_of_getElem? (i := 31) rfl)) (hw _ (List.mem_of_getElem? (i := 24) rfl)) (hw _ (List.mem_of_getElem? (i := 32) rfl)) (by decide) (by decide +kernel : parseMethodDescriptor "([BI)B" = some ⟨[(.array .byte), .int], some .byte⟩) rfl (g := (mkF m 45 #[.val (.ref a), .val (.ref ca), .val (.int (0 : Int32)), .val (.int (2 : Int32)), .val .null, .val (.ref rb)] [(.int (2 : Int32)), (.ref rb), (.ref a)])) rfl (by rw [hml]; rfl) rfl 1 (by show 2 * 0 + _ ≤ _; exact Nat.le_of_eq rfl) (hb hby d4_45) (by decide) (by decide) (by decide) (by decide)
  rw [List.append_nil] at X4
  refine own_go st4 ?_
  show own_Go p e below _ (T4.setTop (mkF m 48 #[.val (.ref a), .val (.ref ca), .val (.int (0 : Int32)), .val (.int (2 : Int32)), .val .null, .val (.ref rb)] [(.int (0 : Int32)), (.ref a)]))
  obtain ⟨T5, h5, X5, e5, W5, st5⟩ := putF X4 hx hZ hown (host := "") (Or.inl (hw _ (List.mem_of_getElem? (i := 33) rfl))) Via.refl eh4 o_coder_3 o_E_3 (Or.inr ⟨(hw _ (List.mem_of_getElem? (i := 34) rfl)), rfl, hnm⟩) (hw _ (List.mem_of_getElem? (i := 8) rfl)) (ty := .byte) (by decide) rfl rfl (g := (mkF m 48 #[.val (.ref a), .val (.ref ca), .val (.int (0 : Int32)), .val (.int (2 : Int32)), .val .null, .val (.ref rb)] [(.int (0 : Int32)), (.ref a)])) rfl rfl (hb hby d4_48)
  have N5 := Fr.snoc X5 N3 ga
  have o_E_5 := o_E_3.wr W5
  have o_value_5 := o_value_3.other W5 (Or.inr (slot_ne (t := (.array .byte)) (t' := .byte) (Or.inr (hw _ (List.mem_of_getElem? (i := 36) rfl))) (Or.inr (hw _ (List.mem_of_getElem? (i := 34) rfl))) (by decide) (by decide) (by decide)))
  have o_coder_5 := o_coder_3.same W5
  have cs_5 := cs_3.wr W5
  have r_A_5 := rA3.other W5 (Ne.symm ne_a_rb)
  have K5 := K3.wr W5 (Or.inl (List.mem_of_getElem? (i := 0) rfl))
  refine own_go st5 ?_
  show own_Go p e below _ (T5.setTop (mkF m 51 #[.val (.ref a), .val (.ref ca), .val (.int (0 : Int32)), .val (.int (2 : Int32)), .val .null, .val (.ref rb)] []))
  refine own_go (fun _ => XS.aloadN X5.here hx rfl (hb hby d4_51) rfl rfl) ?_
  show own_Go p e below _ (T5.setTop (mkF m 52 #[.val (.ref a), .val (.ref ca), .val (.int (0 : Int32)), .val (.int (2 : Int32)), .val .null, .val (.ref rb)] [(.ref a)]))
  refine own_go (fun _ => XS.aload X5.here hx rfl (hb hby d4_52) rfl rfl) ?_
  show own_Go p e below _ (T5.setTop (mkF m 54 #[.val (.ref a), .val (.ref ca), .val (.int (0 : Int32)), .val (.int (2 : Int32)), .val .null, .val (.ref rb)] [(.ref rb), (.ref a)]))
  obtain ⟨T6, h6, X6, e6, W6, st6⟩ := putF X5 hx hZ hown (host := "") (Or.inl (hw _ (List.mem_of_getElem? (i := 35) rfl))) Via.refl e5 o_value_5 o_E_5 (Or.inr ⟨(hw _ (List.mem_of_getElem? (i := 36) rfl)), rfl, hnm⟩) (hw _ (List.mem_of_getElem? (i := 8) rfl)) (ty := (.array .byte)) (by decide) rfl rfl (g := (mkF m 54 #[.val (.ref a), .val (.ref ca), .val (.int (0 : Int32)), .val (.int (2 : Int32)), .val .null, .val (.ref rb)] [(.ref rb), (.ref a)])) rfl rfl (hb hby d4_54)
  have N6 := Fr.snoc X6 N5 ga
  have o_E_6 := o_E_5.wr W6
  have o_value_6 := o_value_5.same W6
  have o_coder_6 := o_coder_5.other W6 (Or.inr (slot_ne (t := .byte) (t' := (.array .byte)) (Or.inr (hw _ (List.mem_of_getElem? (i := 34) rfl))) (Or.inr (hw _ (List.mem_of_getElem? (i := 36) rfl))) (by decide) (by decide) (by decide)))
  have cs_6 := cs_5.wr W6
  have r_A_6 := r_A_5.other W6 (Ne.symm ne_a_rb)
  have K6 := K5.wr W6 (Or.inl (List.mem_of_getElem? (i := 0) rfl))
  refine own_go st6 ?_
  show own_Go p e below _ (T6.setTop (mkF m 57 #[.val (.ref a), .val (.ref ca), .val (.int (0 : Int32)), .val (.int (2 : Int32)), .val .null, .val (.ref rb)] []))
  exact own_vret X6 hx hlk hret (hb hby d4_57) (by decide) (by decide) (by rw [e6]; exact ⟨rfl, N6, K6, o_E_6, rb, o_value_6, o_coder_6, r_A_6⟩)
theorem d3_0 : decode jdk_42_method_3_code 0 = .ok (.aload_n 0, 1) := by decide +kernel
theorem d3_1 : decode jdk_42_method_3_code 1 = .ok (.aload_n 1, 1) := by decide +kernel
theorem d3_2 : decode jdk_42_method_3_code 2 = .ok (.iconst 0, 1) := by decide +kernel
theorem d3_3 : decode jdk_42_method_3_code 3 = .ok (.aload_n 1, 1) := by decide +kernel
theorem d3_4 : decode jdk_42_method_3_code 4 = .ok (.arraylength, 1) := by decide +kernel
theorem d3_5 : decode jdk_42_method_3_code 5 = .ok (.aconst_null, 1) := by decide +kernel
theorem d3_6 : decode jdk_42_method_3_code 6 = .ok (.invokespecial 27, 3) := by decide +kernel
theorem d3_9 : decode jdk_42_method_3_code 9 = .ok (.return_, 1) := by decide +kernel
set_option maxRecDepth 65536 in
set_option maxHeartbeats 40000000 in
theorem own_init1_1_con (l : Launch) (Z : State) (a0 : Array Value) (hw : ∀ d ∈ tables_1, d.before a0 Z = true) (a ca : Addr) (zc x0 : Int32) (n0 : Nat) (h0 : Heap) (o_E0 : Exa Z h0 a "java/lang/String") (o_value0 : Fld Z h0 a "java/lang/String" "value" "[B" .null) (o_coder0 : Fld Z h0 a "java/lang/String" "coder" "B" (.int (0 : Int32))) (cs_S0 : Sta Z h0 "java/lang/String" "COMPACT_STRINGS" "Z" (.int zc)) (hzc : ¬ zc = 0) (c_A0 : own_AV Z h0 ca .char [Value.int x0]) (hx0 : 0 ≤ x0.toInt ∧ x0.toInt < 256) (ne_a_ca : a ≠ ca) (ga : n0 ≤ a) (gn : n0 ≤ h0.size) (ws : List Jvm.Cond) :
    own_Con l Z (⟨"java/lang/String", "<init>", "([C)V"⟩ : MethodName) jdk_42_method_3_code 2 none ({ frames := 3, cells := 1, slots := 1, locals := 80 } : Room) #[(.ref a), (.ref ca)] h0 (fun v h L => v = none ∧ Fr n0 L ∧ Keep h0 h [a] ∧ own_Str Z h a [own_b x0]) ws := by
  refine own_con (F := fun m => (mkF m 0 #[.val (.ref a), .val (.ref ca)] [])) (own_pn (by first | (simp [plainName, overriddenIn]; done) | decide +kernel)) (fun m => by first | (simp [entryFrame, mkF, argsToLocals, Value.category]; done) | rfl) ?_
  intro p e s m below meth c T X hx hby hml hZ hown hnm hret hlk eT
  show own_Go p e below (own_Out s (fun v h L => v = none ∧ Fr n0 L ∧ Keep h0 h [a] ∧ own_Str Z h a [own_b x0]) ({ frames := 3, cells := 1, slots := 1, locals := 80 } : Room).cells ({ frames := 3, cells := 1, slots := 1, locals := 80 } : Room).slots) (T.setTop (mkF m 0 #[.val (.ref a), .val (.ref ca)] []))
  have N0 := Fr.nil n0
  have K0 := Keep.refl h0 [a]
  refine own_go (fun _ => XS.aloadN X.here hx rfl (hb hby d3_0) rfl rfl) ?_
  show own_Go p e below _ (T.setTop (mkF m 1 #[.val (.ref a), .val (.ref ca)] [(.ref a)]))
  refine own_go (fun _ => XS.aloadN X.here hx rfl (hb hby d3_1) rfl rfl) ?_
  show own_Go p e below _ (T.setTop (mkF m 2 #[.val (.ref a), .val (.ref ca)] [(.ref ca), (.ref a)]))
  refine own_go (fun _ => XS.iconst X.here hx rfl (hb hby d3_2)) ?_
  show own_Go p e below _ (T.setTop (mkF m 3 #[.val (.ref a), .val (.ref ca)] [(.int (0 : Int32)), (.ref ca), (.ref a)]))
  refine own_go (fun _ => XS.aloadN X.here hx rfl (hb hby d3_3) rfl rfl) ?_
  show own_Go p e below _ (T.setTop (mkF m 4 #[.val (.ref a), .val (.ref ca)] [(.ref ca), (.int (0 : Int32)), (.ref ca), (.ref a)]))
  refine own_go (own_len X hx hZ eT c_A0 (g := (mkF m 4 #[.val (.ref a), .val (.ref ca)] [(.ref ca), (.int (0 : Int32)), (.ref ca), (.ref a)])) rfl rfl (hb hby d3_4) (1 : Int32) (by first | rfl | simp)) ?_
  show own_Go p e below _ (T.setTop (mkF m 5 #[.val (.ref a), .val (.ref ca)] [(.int (1 : Int32)), (.int (0 : Int32)), (.ref ca), (.ref a)]))
  refine own_go (fun _ => XS.aconstNull X.here hx rfl (hb hby d3_5)) ?_
  show own_Go p e below _ (T.setTop (mkF m 6 #[.val (.ref a), .val (.ref ca)] [.null, (.int (1 : Int32)), (.int (0 : Int32)), (.ref ca), (.ref a)]))
  obtain ⟨_, T1, L1, X1, ⟨rfl, Nc1, Kc1, S1⟩, st1⟩ := own_callI X hx hZ hown rfl (argsL := [(.ref ca), (.int (0 : Int32)), (.int (1 : Int32)), .null]) (rest := []) (own_init4_1_con l Z a0 hw a ca zc x0 n0 h0 o_E0 o_value0 o_coder0 cs_S0 hzc c_A0 hx0 ne_a_ca ga gn []) eT (hw _ (List.mem_of_getElem? (i := 14) rfl)) (hw _ (List.mem_of_getElem? (i := 15) rfl)) (hw _ (List.mem_of_getElem? (i := 9) rfl)) (hw _ (List.mem_of_getElem? (i := 17) rfl)) (by decide) (by decide +kernel : parseMethodDescriptor "([CIILjava/lang/Void;)V" = some ⟨[(.array .char), .int, .int, (.object "java/lang/Void")], none⟩) rfl (g := (mkF m 6 #[.val (.ref a), .val (.ref ca)] [.null, (.int (1 : Int32)), (.int (0 : Int32)), (.ref ca), (.ref a)])) rfl (by rw [hml]; rfl) rfl 0 (by show 2 * 0 + _ ≤ _; exact Nat.le_of_eq rfl) (hb hby d3_6) (by decide) (by decide) (by decide) (by decide)
  have N1 := Fr.app N0 Nc1
  have K1 := K0.trans Kc1 (allS (Or.inl (List.mem_of_getElem? (i := 0) rfl)) all0)
  refine own_go st1 ?_
  show own_Go p e below _ (T1.setTop (mkF m 9 #[.val (.ref a), .val (.ref ca)] []))
  exact own_vret X1 hx hlk hret (hb hby d3_9) (by decide) (by decide) ⟨rfl, N1, K1, S1⟩

set_option maxRecDepth 65536 in
set_option maxHeartbeats 40000000 in
theorem own_init1_2_con (l : Launch) (Z : State) (a0 : Array Value) (hw : ∀ d ∈ tables_1, d.before a0 Z = true) (a ca : Addr) (zc x0 x1 : Int32) (n0 : Nat) (h0 : Heap) (o_E0 : Exa Z h0 a "java/lang/String") (o_value0 : Fld Z h0 a "java/lang/String" "value" "[B" .null) (o_coder0 : Fld Z h0 a "java/lang/String" "coder" "B" (.int (0 : Int32))) (cs_S0 : Sta Z h0 "java/lang/String" "COMPACT_STRINGS" "Z" (.int zc)) (hzc : ¬ zc = 0) (c_A0 : own_AV Z h0 ca .char [Value.int x0, Value.int x1]) (hx0 : 0 ≤ x0.toInt ∧ x0.toInt < 256) (hx1 : 0 ≤ x1.toInt ∧ x1.toInt < 256) (ne_a_ca : a ≠ ca) (ga : n0 ≤ a) (gn : n0 ≤ h0.size) (ws : List Jvm.Cond) :
    own_Con l Z (⟨"java/lang/String", "<init>", "([C)V"⟩ : MethodName) jdk_42_method_3_code 2 none ({ frames := 3, cells := 1, slots := 2, locals := 80 } : Room) #[(.ref a), (.ref ca)] h0 (fun v h L => v = none ∧ Fr n0 L ∧ Keep h0 h [a] ∧ own_Str Z h a [own_b x0, own_b x1]) ws := by
  refine own_con (F := fun m => (mkF m 0 #[.val (.ref a), .val (.ref ca)] [])) (own_pn (by first | (simp [plainName, overriddenIn]; done) | decide +kernel)) (fun m => by first | (simp [entryFrame, mkF, argsToLocals, Value.category]; done) | rfl) ?_
  intro p e s m below meth c T X hx hby hml hZ hown hnm hret hlk eT
  show own_Go p e below (own_Out s (fun v h L => v = none ∧ Fr n0 L ∧ Keep h0 h [a] ∧ own_Str Z h a [own_b x0, own_b x1]) ({ frames := 3, cells := 1, slots := 2, locals := 80 } : Room).cells ({ frames := 3, cells := 1, slots := 2, locals := 80 } : Room).slots) (T.setTop (mkF m 0 #[.val (.ref a), .val (.ref ca)] []))
  have N0 := Fr.nil n0
  have K0 := Keep.refl h0 [a]
  refine own_go (fun _ => XS.aloadN X.here hx rfl (hb hby d3_0) rfl rfl) ?_
  show own_Go p e below _ (T.setTop (mkF m 1 #[.val (.ref a), .val (.ref ca)] [(.ref a)]))
  refine own_go (fun _ => XS.aloadN X.here hx rfl (hb hby d3_1) rfl rfl) ?_
  show own_Go p e below _ (T.setTop (mkF m 2 #[.val (.ref a), .val (.ref ca)] [(.ref ca), (.ref a)]))
  refine own_go (fun _ => XS.iconst X.here hx rfl (hb hby d3_2)) ?_
  show own_Go p e below _ (T.setTop (mkF m 3 #[.val (.ref a), .val (.ref ca)] [(.int (0 : Int32)), (.ref ca), (.ref a)]))
  refine own_go (fun _ => XS.aloadN X.here hx rfl (hb hby d3_3) rfl rfl) ?_
  show own_Go p e below _ (T.setTop (mkF m 4 #[.val (.ref a), .val (.ref ca)] [(.ref ca), (.int (0 : Int32)), (.ref ca), (.ref a)]))
  refine own_go (own_len X hx hZ eT c_A0 (g := (mkF m 4 #[.val (.ref a), .val (.ref ca)] [(.ref ca), (.int (0 : Int32)), (.ref ca), (.ref a)])) rfl rfl (hb hby d3_4) (2 : Int32) (by first | rfl | simp)) ?_
  show own_Go p e below _ (T.setTop (mkF m 5 #[.val (.ref a), .val (.ref ca)] [(.int (2 : Int32)), (.int (0 : Int32)), (.ref ca), (.ref a)]))
  refine own_go (fun _ => XS.aconstNull X.here hx rfl (hb hby d3_5)) ?_
  show own_Go p e below _ (T.setTop (mkF m 6 #[.val (.ref a), .val (.ref ca)] [.null, (.int (2 : Int32)), (.int (0 : Int32)), (.ref ca), (.ref a)]))
  obtain ⟨_, T1, L1, X1, ⟨rfl, Nc1, Kc1, S1⟩, st1⟩ := own_callI X hx hZ hown rfl (argsL := [(.ref ca), (.int (0 : Int32)), (.int (2 : Int32)), .null]) (rest := []) (own_init4_2_con l Z a0 hw a ca zc x0 x1 n0 h0 o_E0 o_value0 o_coder0 cs_S0 hzc c_A0 hx0 hx1 ne_a_ca ga gn []) eT (hw _ (List.mem_of_getElem? (i := 14) rfl)) (hw _ (List.mem_of_getElem? (i := 15) rfl)) (hw _ (List.mem_of_getElem? (i := 9) rfl)) (hw _ (List.mem_of_getElem? (i := 17) rfl)) (by decide) (by decide +kernel : parseMethodDescriptor "([CIILjava/lang/Void;)V" = some ⟨[(.array .char), .int, .int, (.object "java/lang/Void")], none⟩) rfl (g := (mkF m 6 #[.val (.ref a), .val (.ref ca)] [.null, (.int (2 : Int32)), (.int (0 : Int32)), (.ref ca), (.ref a)])) rfl (by rw [hml]; rfl) rfl 0 (by show 2 * 0 + _ ≤ _; exact Nat.le_of_eq rfl) (hb hby d3_6) (by decide) (by decide) (by decide) (by decide)
  have N1 := Fr.app N0 Nc1
  have K1 := K0.trans Kc1 (allS (Or.inl (List.mem_of_getElem? (i := 0) rfl)) all0)
  refine own_go st1 ?_
  show own_Go p e below _ (T1.setTop (mkF m 9 #[.val (.ref a), .val (.ref ca)] []))
  exact own_vret X1 hx hlk hret (hb hby d3_9) (by decide) (by decide) ⟨rfl, N1, K1, S1⟩
theorem d4_8 : decode jdk_42_method_149_code 8 = .ok (.aload_n 0, 1) := by decide +kernel
theorem d4_9 : decode jdk_42_method_149_code 9 = .ok (.ldc 7, 2) := by decide +kernel
theorem d4_11 : decode jdk_42_method_149_code 11 = .ok (.getfield 9, 3) := by decide +kernel
theorem d4_14 : decode jdk_42_method_149_code 14 = .ok (.putfield 9, 3) := by decide +kernel
theorem d4_17 : decode jdk_42_method_149_code 17 = .ok (.aload_n 0, 1) := by decide +kernel
theorem d4_18 : decode jdk_42_method_149_code 18 = .ok (.ldc 7, 2) := by decide +kernel
theorem d4_20 : decode jdk_42_method_149_code 20 = .ok (.getfield 15, 3) := by decide +kernel
theorem d4_23 : decode jdk_42_method_149_code 23 = .ok (.putfield 15, 3) := by decide +kernel
theorem d4_26 : decode jdk_42_method_149_code 26 = .ok (.return_, 1) := by decide +kernel
set_option maxRecDepth 65536 in
set_option maxHeartbeats 40000000 in
theorem own_init4z_con (l : Launch) (Z : State) (a0 : Array Value) (hw : ∀ d ∈ tables_1, d.before a0 Z = true) (a ca : Addr) (n0 : Nat) (h0 : Heap) (o_E0 : Exa Z h0 a "java/lang/String") (o_value0 : Fld Z h0 a "java/lang/String" "value" "[B" .null) (o_coder0 : Fld Z h0 a "java/lang/String" "coder" "B" (.int (0 : Int32))) (ga : n0 ≤ a) (ws : List Jvm.Cond) :
    own_ConW l Z (⟨"java/lang/String", "<init>", "([CIILjava/lang/Void;)V"⟩ : MethodName) jdk_42_method_149_code 6 none ({ frames := 1, cells := 4, slots := 8, locals := 40 } : Room) #[(.ref a), (.ref ca), (.int (0 : Int32)), (.int (0 : Int32)), .null] h0 (fun v h L => v = none ∧ Fr n0 L ∧ Keep h0 h [a] ∧ own_Str Z h a []) ws := by
  refine own_conW (F := fun m => (mkF m 0 #[.val (.ref a), .val (.ref ca), .val (.int (0 : Int32)), .val (.int (0 : Int32)), .val .null, .unset] [])) (own_pn (by first | (simp [plainName, overriddenIn]; done) | decide +kernel)) (fun m => by first | (simp [entryFrame, mkF, argsToLocals, Value.category]; done) | rfl) ?_
  intro p e s m below meth c T X hx hby hml hZ hown hnm hret hlk eT eh H0
  show own_Go p e below (own_OutW Z s (fun v h L => v = none ∧ Fr n0 L ∧ Keep h0 h [a] ∧ own_Str Z h a []) ({ frames := 1, cells := 4, slots := 8, locals := 40 } : Room).cells ({ frames := 1, cells := 4, slots := 8, locals := 40 } : Room).slots) (T.setTop (mkF m 0 #[.val (.ref a), .val (.ref ca), .val (.int (0 : Int32)), .val (.int (0 : Int32)), .val .null, .unset] []))
  have hEL : EW Z a0 own_EL := EW.cons (hw _ (List.mem_of_getElem? (i := 76) rfl)) (by simp) (fun _ hp => nomatch hp)
  have wS : ∀ d ∈ Bundle.stringAtoms, d.before a0 Z = true := own_wS hw
  have hC0 : CHr Z own_EL s.vm s.heap s.vm h0 := by rw [eh]; exact CHr.refl H0
  have hS0 : s.Since s.vm h0.size := own_since0
  have N0 := Fr.nil n0
  have K0 := Keep.refl h0 [a]
  have S0 : Safe Z own_EL s.vm s.heap a := by rw [eh]; exact own_safe0 hZ (hw _ (List.mem_of_getElem? (i := 8) rfl)) o_E0 o_value0
  refine own_go (fun _ => XS.aloadN X.here hx rfl (hb hby d4_0) rfl rfl) ?_
  show own_Go p e below _ (T.setTop (mkF m 1 #[.val (.ref a), .val (.ref ca), .val (.int (0 : Int32)), .val (.int (0 : Int32)), .val .null, .unset] [(.ref a)]))
  obtain ⟨T1, X1, e1, st1⟩ := initO X hx hZ hown (hw _ (List.mem_of_getElem? (i := 18) rfl)) (hw _ (List.mem_of_getElem? (i := 19) rfl)) (hw _ (List.mem_of_getElem? (i := 20) rfl)) eT (g := (mkF m 1 #[.val (.ref a), .val (.ref ca), .val (.int (0 : Int32)), .val (.int (0 : Int32)), .val .null, .unset] [(.ref a)])) rfl (by rw [hml]; rfl) rfl (hb hby d4_1) (by decide) (W := 0) (by show 2 * 0 + _ ≤ _; exact Nat.le_of_eq rfl) (by decide)
  refine own_go st1 ?_
  show own_Go p e below _ (T1.setTop (mkF m 4 #[.val (.ref a), .val (.ref ca), .val (.int (0 : Int32)), .val (.int (0 : Int32)), .val .null, .unset] []))
  refine own_go (fun _ => XS.iloadN X1.here hx rfl (hb hby d4_4) rfl) ?_
  show own_Go p e below _ (T1.setTop (mkF m 5 #[.val (.ref a), .val (.ref ca), .val (.int (0 : Int32)), .val (.int (0 : Int32)), .val .null, .unset] [(.int (0 : Int32))]))
  refine own_go (fun _ => XS.ifNo X1.here hx rfl (hb hby d4_5) rfl (XT.i0_ne_f (by decide))) ?_
  show own_Go p e below _ (T1.setTop (mkF m 8 #[.val (.ref a), .val (.ref ca), .val (.int (0 : Int32)), .val (.int (0 : Int32)), .val .null, .unset] []))
  refine own_go (fun _ => XS.aloadN X1.here hx rfl (hb hby d4_8) rfl rfl) ?_
  show own_Go p e below _ (T1.setTop (mkF m 9 #[.val (.ref a), .val (.ref ca), .val (.int (0 : Int32)), .val (.int (0 : Int32)), .val .null, .unset] [(.ref a)]))
  obtain ⟨ac2, T2, h2, kk2, bc2, X2, e2, E2, hS2, hk2, hZ2, how2, c2_coder0, c2_value0, c2_A0, CC2, ns2, st2⟩ := own_ldcE X1 hx hZ hown (hw _ (List.mem_of_getElem? (i := 76) rfl)) wS e1 hS0 (Nat.le_refl _) hEL hC0.1 (g := (mkF m 9 #[.val (.ref a), .val (.ref ca), .val (.int (0 : Int32)), .val (.int (0 : Int32)), .val .null, .unset] [(.ref a)])) rfl (hb hby d4_9) (by decide) (by decide)
  have hC2 := hC0.trans CC2
  have o_E_2 := o_E0.ext E2
  have o_value_2 := o_value0.ext E2
  have o_coder_2 := o_coder0.ext E2
  have K2 := K0.ext E2
  have sf2 := hC2.safe (by rw [eh]; exact o_E0.lt) S0
  have ne_a_ac2 : a ≠ ac2 := (ns2 _ sf2).1
  have ne_a_bc2 : a ≠ bc2 := (ns2 _ sf2).2
  have hZ := hZ2
  have hown := how2
  refine own_go st2 ?_
  show own_Go p e below _ (T2.setTop (mkF m 11 #[.val (.ref a), .val (.ref ca), .val (.int (0 : Int32)), .val (.int (0 : Int32)), .val .null, .unset] [(.ref ac2), (.ref a)]))
  obtain ⟨T3, X3, e3, st3⟩ := getF X2 hx hZ hown (host := "") (Or.inl (hw _ (List.mem_of_getElem? (i := 35) rfl))) Via.refl e2 c2_value0 (g := (mkF m 11 #[.val (.ref a), .val (.ref ca), .val (.int (0 : Int32)), .val (.int (0 : Int32)), .val .null, .unset] [(.ref ac2), (.ref a)])) rfl rfl (hb hby d4_11)
  refine own_go st3 ?_
  show own_Go p e below _ (T3.setTop (mkF m 14 #[.val (.ref a), .val (.ref ca), .val (.int (0 : Int32)), .val (.int (0 : Int32)), .val .null, .unset] [(.ref bc2), (.ref a)]))
  obtain ⟨T4, h4, X4, e4, W4, st4⟩ := putF X3 hx hZ hown (host := "") (Or.inl (hw _ (List.mem_of_getElem? (i := 35) rfl))) Via.refl e3 o_value_2 o_E_2 (Or.inr ⟨(hw _ (List.mem_of_getElem? (i := 36) rfl)), rfl, hnm⟩) (hw _ (List.mem_of_getElem? (i := 8) rfl)) (ty := (.array .byte)) (by decide) rfl rfl (g := (mkF m 14 #[.val (.ref a), .val (.ref ca), .val (.int (0 : Int32)), .val (.int (0 : Int32)), .val .null, .unset] [(.ref bc2), (.ref a)])) rfl rfl (hb hby d4_14)
  have N4 := Fr.snoc X4 N0 ga
  have o_E_4 := o_E_2.wr W4
  have o_value_4 := o_value_2.same W4
  have o_coder_4 := o_coder_2.other W4 (Or.inr (slot_ne (t := .byte) (t' := (.array .byte)) (Or.inr (hw _ (List.mem_of_getElem? (i := 34) rfl))) (Or.inr (hw _ (List.mem_of_getElem? (i := 36) rfl))) (by decide) (by decide) (by decide)))
  have c2_value_4 := c2_value0.other W4 (Or.inl (Ne.symm ne_a_ac2))
  have c2_coder_4 := c2_coder0.other W4 (Or.inl (Ne.symm ne_a_ac2))
  have c2_A_4 := c2_A0.other W4 (Ne.symm ne_a_bc2)
  have K4 := K2.wr W4 (Or.inl (List.mem_of_getElem? (i := 0) rfl))
  refine own_go st4 ?_
  show own_Go p e below _ (T4.setTop (mkF m 17 #[.val (.ref a), .val (.ref ca), .val (.int (0 : Int32)), .val (.int (0 : Int32)), .val .null, .unset] []))
  have hC4 := hC2.trans (CHr.wr W4 (hC2.safe (by rw [eh]; exact o_E0.lt) S0) hC2.1)
  have hk4 : kk2 ≤ h4.size := by rw [W4.size]; exact hk2
  refine own_go (fun _ => XS.aloadN X4.here hx rfl (hb hby d4_17) rfl rfl) ?_
  show own_Go p e below _ (T4.setTop (mkF m 18 #[.val (.ref a), .val (.ref ca), .val (.int (0 : Int32)), .val (.int (0 : Int32)), .val .null, .unset] [(.ref a)]))
  obtain ⟨ac5, T5, h5, kk5, bc5, X5, e5, E5, hS5, hk5, hZ5, how5, c5_coder0, c5_value0, c5_A0, CC5, ns5, st5⟩ := own_ldcE X4 hx hZ hown (hw _ (List.mem_of_getElem? (i := 76) rfl)) wS e4 hS2 hk4 hEL hC4.1 (g := (mkF m 18 #[.val (.ref a), .val (.ref ca), .val (.int (0 : Int32)), .val (.int (0 : Int32)), .val .null, .unset] [(.ref a)])) rfl (hb hby d4_18) (by decide) (by decide)
  have hC5 := hC4.trans CC5
  have o_E_5 := o_E_4.ext E5
  have o_value_5 := o_value_4.ext E5
  have o_coder_5 := o_coder_4.ext E5
  have c2_value_5 := c2_value_4.ext E5
  have c2_coder_5 := c2_coder_4.ext E5
  have c2_A_5 := c2_A_4.ext E5
  have K5 := K4.ext E5
  have sf5 := hC5.safe (by rw [eh]; exact o_E0.lt) S0
  have ne_a_ac5 : a ≠ ac5 := (ns5 _ sf5).1
  have ne_a_bc5 : a ≠ bc5 := (ns5 _ sf5).2
  have hZ := hZ5
  have hown := how5
  refine own_go st5 ?_
  show own_Go p e below _ (T5.setTop (mkF m 20 #[.val (.ref a), .val (.ref ca), .val (.int (0 : Int32)), .val (.int (0 : Int32)), .val .null, .unset] [(.ref ac5), (.ref a)]))
  obtain ⟨T6, X6, e6, st6⟩ := getF X5 hx hZ hown (host := "") (Or.inl (hw _ (List.mem_of_getElem? (i := 33) rfl))) Via.refl e5 c5_coder0 (g := (mkF m 20 #[.val (.ref a), .val (.ref ca), .val (.int (0 : Int32)), .val (.int (0 : Int32)), .val .null, .unset] [(.ref ac5), (.ref a)])) rfl rfl (hb hby d4_20)
  refine own_go st6 ?_
  show own_Go p e below _ (T6.setTop (mkF m 23 #[.val (.ref a), .val (.ref ca), .val (.int (0 : Int32)), .val (.int (0 : Int32)), .val .null, .unset] [(.int (0 : Int32)), (.ref a)]))
  obtain ⟨T7, h7, X7, e7, W7, st7⟩ := putF X6 hx hZ hown (host := "") (Or.inl (hw _ (List.mem_of_getElem? (i := 33) rfl))) Via.refl e6 o_coder_5 o_E_5 (Or.inr ⟨(hw _ (List.mem_of_getElem? (i := 34) rfl)), rfl, hnm⟩) (hw _ (List.mem_of_getElem? (i := 8) rfl)) (ty := .byte) (by decide) rfl rfl (g := (mkF m 23 #[.val (.ref a), .val (.ref ca), .val (.int (0 : Int32)), .val (.int (0 : Int32)), .val .null, .unset] [(.int (0 : Int32)), (.ref a)])) rfl rfl (hb hby d4_23)
  have N7 := Fr.snoc X7 N4 ga
  have o_E_7 := o_E_5.wr W7
  have o_value_7 := o_value_5.other W7 (Or.inr (slot_ne (t := (.array .byte)) (t' := .byte) (Or.inr (hw _ (List.mem_of_getElem? (i := 36) rfl))) (Or.inr (hw _ (List.mem_of_getElem? (i := 34) rfl))) (by decide) (by decide) (by decide)))
  have o_coder_7 := o_coder_5.same W7
  have c2_value_7 := c2_value_5.other W7 (Or.inl (Ne.symm ne_a_ac2))
  have c2_coder_7 := c2_coder_5.other W7 (Or.inl (Ne.symm ne_a_ac2))
  have c2_A_7 := c2_A_5.other W7 (Ne.symm ne_a_bc2)
  have c5_value_7 := c5_value0.other W7 (Or.inl (Ne.symm ne_a_ac5))
  have c5_coder_7 := c5_coder0.other W7 (Or.inl (Ne.symm ne_a_ac5))
  have c5_A_7 := c5_A0.other W7 (Ne.symm ne_a_bc5)
  have K7 := K5.wr W7 (Or.inl (List.mem_of_getElem? (i := 0) rfl))
  refine own_go st7 ?_
  show own_Go p e below _ (T7.setTop (mkF m 26 #[.val (.ref a), .val (.ref ca), .val (.int (0 : Int32)), .val (.int (0 : Int32)), .val .null, .unset] []))
  have hC7 := hC5.trans (CHr.wr W7 (hC5.safe (by rw [eh]; exact o_E0.lt) S0) hC5.1)
  have hk7 : kk5 ≤ h7.size := by rw [W7.size]; exact hk5
  exact own_vretW X7 hx hlk hret (hb hby d4_26) hZ hEL hS5 (by rw [e7]; exact hk7) e7 hC7 (by decide) (by decide) ⟨rfl, N7, K7, o_E_7, bc2, o_value_7, o_coder_7, c2_A_7⟩

set_option maxRecDepth 65536 in
set_option maxHeartbeats 40000000 in
theorem own_init1z_con (l : Launch) (Z : State) (a0 : Array Value) (hw : ∀ d ∈ tables_1, d.before a0 Z = true) (a ca : Addr) (n0 : Nat) (h0 : Heap) (o_E0 : Exa Z h0 a "java/lang/String") (o_value0 : Fld Z h0 a "java/lang/String" "value" "[B" .null) (o_coder0 : Fld Z h0 a "java/lang/String" "coder" "B" (.int (0 : Int32))) (c_A0 : own_AV Z h0 ca .char []) (ga : n0 ≤ a) (ws : List Jvm.Cond) :
    own_ConW l Z (⟨"java/lang/String", "<init>", "([C)V"⟩ : MethodName) jdk_42_method_3_code 2 none ({ frames := 2, cells := 4, slots := 8, locals := 60 } : Room) #[(.ref a), (.ref ca)] h0 (fun v h L => v = none ∧ Fr n0 L ∧ Keep h0 h [a] ∧ own_Str Z h a []) ws := by
  refine own_conW (F := fun m => (mkF m 0 #[.val (.ref a), .val (.ref ca)] [])) (own_pn (by first | (simp [plainName, overriddenIn]; done) | decide +kernel)) (fun m => by first | (simp [entryFrame, mkF, argsToLocals, Value.category]; done) | rfl) ?_
  intro p e s m below meth c T X hx hby hml hZ hown hnm hret hlk eT eh H0
  show own_Go p e below (own_OutW Z s (fun v h L => v = none ∧ Fr n0 L ∧ Keep h0 h [a] ∧ own_Str Z h a []) ({ frames := 2, cells := 4, slots := 8, locals := 60 } : Room).cells ({ frames := 2, cells := 4, slots := 8, locals := 60 } : Room).slots) (T.setTop (mkF m 0 #[.val (.ref a), .val (.ref ca)] []))
  have hEL : EW Z a0 own_EL := EW.cons (hw _ (List.mem_of_getElem? (i := 76) rfl)) (by simp) (fun _ hp => nomatch hp)
  have wS : ∀ d ∈ Bundle.stringAtoms, d.before a0 Z = true := own_wS hw
  have hC0 : CHr Z own_EL s.vm s.heap s.vm h0 := by rw [eh]; exact CHr.refl H0
  have hS0 : s.Since s.vm h0.size := own_since0
  have N0 := Fr.nil n0
  have K0 := Keep.refl h0 [a]
  refine own_go (fun _ => XS.aloadN X.here hx rfl (hb hby d3_0) rfl rfl) ?_
  show own_Go p e below _ (T.setTop (mkF m 1 #[.val (.ref a), .val (.ref ca)] [(.ref a)]))
  refine own_go (fun _ => XS.aloadN X.here hx rfl (hb hby d3_1) rfl rfl) ?_
  show own_Go p e below _ (T.setTop (mkF m 2 #[.val (.ref a), .val (.ref ca)] [(.ref ca), (.ref a)]))
  refine own_go (fun _ => XS.iconst X.here hx rfl (hb hby d3_2)) ?_
  show own_Go p e below _ (T.setTop (mkF m 3 #[.val (.ref a), .val (.ref ca)] [(.int (0 : Int32)), (.ref ca), (.ref a)]))
  refine own_go (fun _ => XS.aloadN X.here hx rfl (hb hby d3_3) rfl rfl) ?_
  show own_Go p e below _ (T.setTop (mkF m 4 #[.val (.ref a), .val (.ref ca)] [(.ref ca), (.int (0 : Int32)), (.ref ca), (.ref a)]))
  refine own_go (own_len X hx hZ eT c_A0 (g := (mkF m 4 #[.val (.ref a), .val (.ref ca)] [(.ref ca), (.int (0 : Int32)), (.ref ca), (.ref a)])) rfl rfl (hb hby d3_4) (0 : Int32) (by decide)) ?_
  show own_Go p e below _ (T.setTop (mkF m 5 #[.val (.ref a), .val (.ref ca)] [(.int (0 : Int32)), (.int (0 : Int32)), (.ref ca), (.ref a)]))
  refine own_go (fun _ => XS.aconstNull X.here hx rfl (hb hby d3_5)) ?_
  show own_Go p e below _ (T.setTop (mkF m 6 #[.val (.ref a), .val (.ref ca)] [.null, (.int (0 : Int32)), (.int (0 : Int32)), (.ref ca), (.ref a)]))
  obtain ⟨_, T1, L1, X1, ⟨rfl, Nc1, Kc1, S1⟩, CC1, hS1, hZ1, how1, st1⟩ := own_callIW X hx hZ hown rfl (argsL := [(.ref ca), (.int (0 : Int32)), (.int (0 : Int32)), .null]) (rest := []) (own_init4z_con l Z a0 hw a ca n0 h0 o_E0 o_value0 o_coder0 ga []) eT hEL hC0.1 hS0 (Nat.le_refl _) (hw _ (List.mem_of_getElem? (i := 14) rfl)) (hw _ (List.mem_of_getElem? (i := 15) rfl)) (hw _ (List.mem_of_getElem? (i := 9) rfl)) (hw _ (List.mem_of_getElem? (i := 17) rfl)) (by decide) (by decide +kernel : parseMethodDescriptor "([CIILjava/lang/Void;)V" = some ⟨[(.array .char), .int, .int, (.object "java/lang/Void")], none⟩) rfl (g := (mkF m 6 #[.val (.ref a), .val (.ref ca)] [.null, (.int (0 : Int32)), (.int (0 : Int32)), (.ref ca), (.ref a)])) rfl (by rw [hml]; rfl) rfl 0 (by show 2 * 0 + _ ≤ _; exact Nat.le_of_eq rfl) (hb hby d3_6) (by decide) (by decide) (by decide) (by decide)
  have hC1 := hC0.trans CC1
  have N1 := Fr.app N0 Nc1
  have K1 := K0.trans Kc1 (allS (Or.inl (List.mem_of_getElem? (i := 0) rfl)) all0)
  have hZ := hZ1
  have hown := how1
  refine own_go st1 ?_
  show own_Go p e below _ (T1.setTop (mkF m 9 #[.val (.ref a), .val (.ref ca)] []))
  exact own_vretW X1 hx hlk hret (hb hby d3_9) hZ hEL hS1 (Nat.le_refl _) rfl hC1 (by decide) (by decide) ⟨rfl, N1, K1, S1⟩
theorem d2_0 : decode method_4_code 0 = .ok (.iload_n 0, 1) := by decide +kernel
theorem d2_1 : decode method_4_code 1 = .ok (.ifCond .ne 14, 3) := by decide +kernel
theorem d2_4 : decode method_4_code 4 = .ok (.new 25, 3) := by decide +kernel
theorem d2_7 : decode method_4_code 7 = .ok (.dup, 1) := by decide +kernel
theorem d2_8 : decode method_4_code 8 = .ok (.iconst 0, 1) := by decide +kernel
theorem d2_9 : decode method_4_code 9 = .ok (.newarray .char, 2) := by decide +kernel
theorem d2_11 : decode method_4_code 11 = .ok (.invokespecial 27, 3) := by decide +kernel
theorem d2_14 : decode method_4_code 14 = .ok (.areturn, 1) := by decide +kernel
theorem d2_15 : decode method_4_code 15 = .ok (.iload_n 0, 1) := by decide +kernel
theorem d2_16 : decode method_4_code 16 = .ok (.iconst 1, 1) := by decide +kernel
theorem d2_17 : decode method_4_code 17 = .ok (.if_icmp .ne 18, 3) := by decide +kernel
theorem d2_20 : decode method_4_code 20 = .ok (.new 25, 3) := by decide +kernel
theorem d2_23 : decode method_4_code 23 = .ok (.dup, 1) := by decide +kernel
theorem d2_24 : decode method_4_code 24 = .ok (.iconst 1, 1) := by decide +kernel
theorem d2_25 : decode method_4_code 25 = .ok (.newarray .char, 2) := by decide +kernel
theorem d2_27 : decode method_4_code 27 = .ok (.dup, 1) := by decide +kernel
theorem d2_28 : decode method_4_code 28 = .ok (.iconst 0, 1) := by decide +kernel
theorem d2_29 : decode method_4_code 29 = .ok (.iload_n 1, 1) := by decide +kernel
theorem d2_30 : decode method_4_code 30 = .ok (.castore, 1) := by decide +kernel
theorem d2_31 : decode method_4_code 31 = .ok (.invokespecial 27, 3) := by decide +kernel
theorem d2_34 : decode method_4_code 34 = .ok (.areturn, 1) := by decide +kernel
theorem d2_35 : decode method_4_code 35 = .ok (.new 25, 3) := by decide +kernel
theorem d2_38 : decode method_4_code 38 = .ok (.dup, 1) := by decide +kernel
theorem d2_39 : decode method_4_code 39 = .ok (.iconst 2, 1) := by decide +kernel
theorem d2_40 : decode method_4_code 40 = .ok (.newarray .char, 2) := by decide +kernel
theorem d2_42 : decode method_4_code 42 = .ok (.dup, 1) := by decide +kernel
theorem d2_43 : decode method_4_code 43 = .ok (.iconst 0, 1) := by decide +kernel
theorem d2_44 : decode method_4_code 44 = .ok (.iload_n 1, 1) := by decide +kernel
theorem d2_45 : decode method_4_code 45 = .ok (.castore, 1) := by decide +kernel
theorem d2_46 : decode method_4_code 46 = .ok (.dup, 1) := by decide +kernel
theorem d2_47 : decode method_4_code 47 = .ok (.iconst 1, 1) := by decide +kernel
theorem d2_48 : decode method_4_code 48 = .ok (.iload_n 2, 1) := by decide +kernel
theorem d2_49 : decode method_4_code 49 = .ok (.castore, 1) := by decide +kernel
theorem d2_50 : decode method_4_code 50 = .ok (.invokespecial 27, 3) := by decide +kernel
theorem d2_53 : decode method_4_code 53 = .ok (.areturn, 1) := by decide +kernel
set_option maxRecDepth 65536 in
set_option maxHeartbeats 40000000 in
theorem own_str_con (l : Launch) (Z : State) (a0 : Array Value) (hw : ∀ d ∈ tables_1, d.before a0 Z = true) (n c0 c1 zc : Int32) (n0 : Nat) (h0 : Heap) (hn : n = 0 ∨ n = 1 ∨ n = 2) (cs_S0 : Sta Z h0 "java/lang/String" "COMPACT_STRINGS" "Z" (.int zc)) (hzc : ¬ zc = 0) (hc0 : 0 ≤ c0.toInt ∧ c0.toInt < 256) (hc1 : 0 ≤ c1.toInt ∧ c1.toInt < 256) (gn : n0 ≤ h0.size) (ws : List Jvm.Cond) :
    own_ConW l Z (⟨"com/example/secure_model_views/securemodelviews/TokenIsPinLaw", "str", "(ICC)Ljava/lang/String;"⟩ : MethodName) method_4_code 3 (some (.object "java/lang/String")) ({ frames := 4, cells := 6, slots := 14, locals := 100 } : Room) #[(.int n), (.int c0), (.int c1)] h0 (fun v h L => ∃ r, v = some (.ref r) ∧ Fr n0 L ∧ Keep h0 h [] ∧ h0.size ≤ r ∧ own_Str Z h r (own_bs n c0 c1)) ws := by
  refine own_conW (F := fun m => (mkF m 0 #[.val (.int n), .val (.int c0), .val (.int c1)] [])) (own_pn (by first | (simp [plainName, overriddenIn]; done) | decide +kernel)) (fun m => by first | (simp [entryFrame, mkF, argsToLocals, Value.category]; done) | rfl) ?_
  intro p e s m below meth c T X hx hby hml hZ hown hnm hret hlk eT eh H0
  show own_Go p e below (own_OutW Z s (fun v h L => ∃ r, v = some (.ref r) ∧ Fr n0 L ∧ Keep h0 h [] ∧ h0.size ≤ r ∧ own_Str Z h r (own_bs n c0 c1)) ({ frames := 4, cells := 6, slots := 14, locals := 100 } : Room).cells ({ frames := 4, cells := 6, slots := 14, locals := 100 } : Room).slots) (T.setTop (mkF m 0 #[.val (.int n), .val (.int c0), .val (.int c1)] []))
  have hEL : EW Z a0 own_EL := EW.cons (hw _ (List.mem_of_getElem? (i := 76) rfl)) (by simp) (fun _ hp => nomatch hp)
  have wS : ∀ d ∈ Bundle.stringAtoms, d.before a0 Z = true := own_wS hw
  have hC0 : CHr Z own_EL s.vm s.heap s.vm h0 := by rw [eh]; exact CHr.refl H0
  have hS0 : s.Since s.vm h0.size := own_since0
  have N0 := Fr.nil n0
  have K0 := Keep.refl h0 []
  rcases hn with rfl | rfl | rfl
  · skip
    show own_Go p e below _ (T.setTop (mkF m 0 #[.val (.int (0 : Int32)), .val (.int c0), .val (.int c1)] []))
    refine own_go (fun _ => XS.iloadN X.here hx rfl (hb hby d2_0) rfl) ?_
    show own_Go p e below _ (T.setTop (mkF m 1 #[.val (.int (0 : Int32)), .val (.int c0), .val (.int c1)] [(.int (0 : Int32))]))
    refine own_go (fun _ => XS.ifNo X.here hx rfl (hb hby d2_1) rfl (XT.i0_ne_f (by decide))) ?_
    show own_Go p e below _ (T.setTop (mkF m 4 #[.val (.int (0 : Int32)), .val (.int c0), .val (.int c1)] []))
    obtain ⟨T1, h1, X1, e1, E1, C1, D1, -, st1⟩ := newO X hx hZ hown (hw _ (List.mem_of_getElem? (i := 7) rfl)) (hw _ (List.mem_of_getElem? (i := 8) rfl)) (hw _ (List.mem_of_getElem? (i := 9) rfl)) eT (g := (mkF m 4 #[.val (.int (0 : Int32)), .val (.int c0), .val (.int c1)] [])) rfl (hb hby d2_4) (by decide) (by decide)
    obtain ⟨a1, q1⟩ : ∃ z, z = h0.size := ⟨_, rfl⟩
    rw [← q1] at C1 D1 st1
    have cs_1 := cs_S0.ext E1
    have K1 := K0.ext E1
    have o_value_1 := D1 (Or.inr (hw _ (List.mem_of_getElem? (i := 36) rfl))) (ty := (.array .byte)) (by decide)
    have o_coder_1 := D1 (Or.inr (hw _ (List.mem_of_getElem? (i := 34) rfl))) (ty := .byte) (by decide)
    refine own_go st1 ?_
    show own_Go p e below _ (T1.setTop (mkF m 7 #[.val (.int (0 : Int32)), .val (.int c0), .val (.int c1)] [(.ref a1)]))
    refine own_go (fun _ => XS.dup X1.here hx rfl (hb hby d2_7) rfl rfl) ?_
    show own_Go p e below _ (T1.setTop (mkF m 8 #[.val (.int (0 : Int32)), .val (.int c0), .val (.int c1)] [(.ref a1), (.ref a1)]))
    refine own_go (fun _ => XS.iconst X1.here hx rfl (hb hby d2_8)) ?_
    show own_Go p e below _ (T1.setTop (mkF m 9 #[.val (.int (0 : Int32)), .val (.int c0), .val (.int c1)] [(.int (0 : Int32)), (.ref a1), (.ref a1)]))
    obtain ⟨T2, h2, X2, e2, E2, A2, C2, st2⟩ := own_newAE X1 hx hZ (aty := .char) (hw _ (List.mem_of_getElem? (i := 10) rfl)) e1 (g := (mkF m 9 #[.val (.int (0 : Int32)), .val (.int c0), .val (.int c1)] [(.int (0 : Int32)), (.ref a1), (.ref a1)])) rfl (hb hby d2_9) rfl 0 0 (by decide) (by decide) (by decide) (by decide) (by decide) (ad := "[C") (by first | rfl | decide)
    obtain ⟨a2, q2⟩ : ∃ z, z = h1.size := ⟨_, rfl⟩
    rw [← q2] at A2 C2 st2
    have ne_a1_a2 : a1 ≠ a2 := fun z => absurd C1.lt (by rw [z, q2]; exact Nat.lt_irrefl _)
    have cs_2 := cs_1.ext E2
    have o_E_2 := C1.ext E2
    have o_value_2 := o_value_1.ext E2
    have o_coder_2 := o_coder_1.ext E2
    have K2 := K1.ext E2
    refine own_go st2 ?_
    show own_Go p e below _ (T2.setTop (mkF m 11 #[.val (.int (0 : Int32)), .val (.int c0), .val (.int c1)] [(.ref a2), (.ref a1), (.ref a1)]))
    have fra2 : h0.size ≤ a2 := by rw [q2]; exact K1.1
    have fra1 : h0.size ≤ a1 := Nat.le_of_eq q1.symm
    have hCk := CHr.keep (ws := []) K2 (fun x q => nomatch q) H0
    have hCt : CHr Z own_EL s.vm s.heap s.vm h2 := by rw [eh]; exact hCk
    obtain ⟨_, T3, L3, X3, ⟨rfl, Nc3, Kc3, S3⟩, CC3, hS3, hZ3, how3, st3⟩ := own_callIW X2 hx hZ hown rfl (argsL := [(.ref a2)]) (rest := [(.ref a1)]) (own_init1z_con l Z a0 hw a1 a2 n0 h2 o_E_2 o_value_2 o_coder_2 A2 (Nat.le_trans gn fra1) []) e2 hEL hCt.1 hS0 K2.1 (hw _ (List.mem_of_getElem? (i := 11) rfl)) (hw _ (List.mem_of_getElem? (i := 12) rfl)) (hw _ (List.mem_of_getElem? (i := 9) rfl)) (hw _ (List.mem_of_getElem? (i := 13) rfl)) (by decide) (by decide +kernel : parseMethodDescriptor "([C)V" = some ⟨[(.array .char)], none⟩) rfl (g := (mkF m 11 #[.val (.int (0 : Int32)), .val (.int c0), .val (.int c1)] [(.ref a2), (.ref a1), (.ref a1)])) rfl (by rw [hml]; rfl) rfl 1 (by show 2 * 0 + _ ≤ _; exact Nat.le_of_eq rfl) (hb hby d2_11) (by decide) (by decide) (by decide) (by decide)
    have hC3 := hCt.trans CC3
    have N3 := Fr.app N0 Nc3
    have o_E_3 := o_E_2.keep Kc3
    have c_E_3 := C2.keep Kc3
    have c_A_3 := A2.keep Kc3 (ninS (Ne.symm ne_a1_a2) nin0)
    have cs_3 := own_Sta_keep1 cs_2 Kc3 o_E_2
    have K3 := K2.trans Kc3 (allS (Or.inr fra1) all0)
    have hZ := hZ3
    have hown := how3
    refine own_go st3 ?_
    show own_Go p e below _ (T3.setTop (mkF m 14 #[.val (.int (0 : Int32)), .val (.int c0), .val (.int c1)] [(.ref a1)]))
    exact own_aretW X3 hx hlk hret rfl rfl (hb hby d2_14) hZ hEL hS3 (Nat.le_refl _) rfl hC3 (by decide) (by decide) ⟨a1, rfl, N3, K3, fra1, S3⟩
  · skip
    show own_Go p e below _ (T.setTop (mkF m 0 #[.val (.int (1 : Int32)), .val (.int c0), .val (.int c1)] []))
    refine own_go (fun _ => XS.iloadN X.here hx rfl (hb hby d2_0) rfl) ?_
    show own_Go p e below _ (T.setTop (mkF m 1 #[.val (.int (1 : Int32)), .val (.int c0), .val (.int c1)] [(.int (1 : Int32))]))
    refine own_go (fun _ => XS.ifYes X.here hx rfl (pc0 := 1) (pc' := 15) rfl (hb hby d2_1) rfl (XT.i0_ne_t (by decide)) (by decide) (by decide)) ?_
    show own_Go p e below _ (T.setTop (mkF m 15 #[.val (.int (1 : Int32)), .val (.int c0), .val (.int c1)] []))
    refine own_go (fun _ => XS.iloadN X.here hx rfl (hb hby d2_15) rfl) ?_
    show own_Go p e below _ (T.setTop (mkF m 16 #[.val (.int (1 : Int32)), .val (.int c0), .val (.int c1)] [(.int (1 : Int32))]))
    refine own_go (fun _ => XS.iconst X.here hx rfl (hb hby d2_16)) ?_
    show own_Go p e below _ (T.setTop (mkF m 17 #[.val (.int (1 : Int32)), .val (.int c0), .val (.int c1)] [(.int (1 : Int32)), (.int (1 : Int32))]))
    refine own_go (fun _ => XS.icmpNo X.here hx rfl (hb hby d2_17) rfl (XT.ii_ne_f (by decide))) ?_
    show own_Go p e below _ (T.setTop (mkF m 20 #[.val (.int (1 : Int32)), .val (.int c0), .val (.int c1)] []))
    obtain ⟨T4, h4, X4, e4, E4, C4, D4, -, st4⟩ := newO X hx hZ hown (hw _ (List.mem_of_getElem? (i := 7) rfl)) (hw _ (List.mem_of_getElem? (i := 8) rfl)) (hw _ (List.mem_of_getElem? (i := 9) rfl)) eT (g := (mkF m 20 #[.val (.int (1 : Int32)), .val (.int c0), .val (.int c1)] [])) rfl (hb hby d2_20) (by decide) (by decide)
    obtain ⟨a4, q4⟩ : ∃ z, z = h0.size := ⟨_, rfl⟩
    rw [← q4] at C4 D4 st4
    have cs_4 := cs_S0.ext E4
    have K4 := K0.ext E4
    have o_value_4 := D4 (Or.inr (hw _ (List.mem_of_getElem? (i := 36) rfl))) (ty := (.array .byte)) (by decide)
    have o_coder_4 := D4 (Or.inr (hw _ (List.mem_of_getElem? (i := 34) rfl))) (ty := .byte) (by decide)
    refine own_go st4 ?_
    show own_Go p e below _ (T4.setTop (mkF m 23 #[.val (.int (1 : Int32)), .val (.int c0), .val (.int c1)] [(.ref a4)]))
    refine own_go (fun _ => XS.dup X4.here hx rfl (hb hby d2_23) rfl rfl) ?_
    show own_Go p e below _ (T4.setTop (mkF m 24 #[.val (.int (1 : Int32)), .val (.int c0), .val (.int c1)] [(.ref a4), (.ref a4)]))
    refine own_go (fun _ => XS.iconst X4.here hx rfl (hb hby d2_24)) ?_
    show own_Go p e below _ (T4.setTop (mkF m 25 #[.val (.int (1 : Int32)), .val (.int c0), .val (.int c1)] [(.int (1 : Int32)), (.ref a4), (.ref a4)]))
    obtain ⟨T5, h5, X5, e5, E5, A5, C5, st5⟩ := own_newAE X4 hx hZ (aty := .char) (hw _ (List.mem_of_getElem? (i := 10) rfl)) e4 (g := (mkF m 25 #[.val (.int (1 : Int32)), .val (.int c0), .val (.int c1)] [(.int (1 : Int32)), (.ref a4), (.ref a4)])) rfl (hb hby d2_25) rfl 1 1 (by decide) (by decide) (by decide) (by decide) (by decide) (ad := "[C") (by first | rfl | decide)
    obtain ⟨a5, q5⟩ : ∃ z, z = h4.size := ⟨_, rfl⟩
    rw [← q5] at A5 C5 st5
    have ne_a4_a5 : a4 ≠ a5 := fun z => absurd C4.lt (by rw [z, q5]; exact Nat.lt_irrefl _)
    have cs_5 := cs_4.ext E5
    have o_E_5 := C4.ext E5
    have o_value_5 := o_value_4.ext E5
    have o_coder_5 := o_coder_4.ext E5
    have K5 := K4.ext E5
    refine own_go st5 ?_
    show own_Go p e below _ (T5.setTop (mkF m 27 #[.val (.int (1 : Int32)), .val (.int c0), .val (.int c1)] [(.ref a5), (.ref a4), (.ref a4)]))
    have fra5 : h0.size ≤ a5 := by rw [q5]; exact K4.1
    have fra4 : h0.size ≤ a4 := Nat.le_of_eq q4.symm
    refine own_go (fun _ => XS.dup X5.here hx rfl (hb hby d2_27) rfl rfl) ?_
    show own_Go p e below _ (T5.setTop (mkF m 28 #[.val (.int (1 : Int32)), .val (.int c0), .val (.int c1)] [(.ref a5), (.ref a5), (.ref a4), (.ref a4)]))
    refine own_go (fun _ => XS.iconst X5.here hx rfl (hb hby d2_28)) ?_
    show own_Go p e below _ (T5.setTop (mkF m 29 #[.val (.int (1 : Int32)), .val (.int c0), .val (.int c1)] [(.int (0 : Int32)), (.ref a5), (.ref a5), (.ref a4), (.ref a4)]))
    refine own_go (fun _ => XS.iloadN X5.here hx rfl (hb hby d2_29) rfl) ?_
    show own_Go p e below _ (T5.setTop (mkF m 30 #[.val (.int (1 : Int32)), .val (.int c0), .val (.int c1)] [(.int c0), (.int (0 : Int32)), (.ref a5), (.ref a5), (.ref a4), (.ref a4)]))
    obtain ⟨T6, h6, X6, e6, W6, A6, st6⟩ := own_stC X5 hx hZ e5 A5 (x := c0) (g := (mkF m 30 #[.val (.int (1 : Int32)), .val (.int c0), .val (.int c1)] [(.int c0), (.int (0 : Int32)), (.ref a5), (.ref a5), (.ref a4), (.ref a4)])) rfl rfl (hb hby d2_30) 0 (by decide) (by simp) (by omega)
    have N6 := Fr.snoc X6 N0 (Nat.le_trans gn fra5)
    have cs_6 := cs_5.wr W6
    have o_E_6 := o_E_5.wr W6
    have o_value_6 := o_value_5.other W6 (Or.inl ne_a4_a5)
    have o_coder_6 := o_coder_5.other W6 (Or.inl ne_a4_a5)
    have c_E_6 := C5.wr W6
    have K6 := K5.wr W6 (Or.inr fra5)
    refine own_go st6 ?_
    show own_Go p e below _ (T6.setTop (mkF m 31 #[.val (.int (1 : Int32)), .val (.int c0), .val (.int c1)] [(.ref a5), (.ref a4), (.ref a4)]))
    obtain ⟨_, T7, L7, X7, ⟨rfl, Nc7, Kc7, S7⟩, st7⟩ := own_callI X6 hx hZ hown rfl (argsL := [(.ref a5)]) (rest := [(.ref a4)]) (own_init1_1_con l Z a0 hw a4 a5 zc c0 n0 h6 o_E_6 o_value_6 o_coder_6 cs_6 hzc A6 hc0 ne_a4_a5 (Nat.le_trans gn fra4) (Nat.le_trans gn K6.1) []) e6 (hw _ (List.mem_of_getElem? (i := 11) rfl)) (hw _ (List.mem_of_getElem? (i := 12) rfl)) (hw _ (List.mem_of_getElem? (i := 9) rfl)) (hw _ (List.mem_of_getElem? (i := 13) rfl)) (by decide) (by decide +kernel : parseMethodDescriptor "([C)V" = some ⟨[(.array .char)], none⟩) rfl (g := (mkF m 31 #[.val (.int (1 : Int32)), .val (.int c0), .val (.int c1)] [(.ref a5), (.ref a4), (.ref a4)])) rfl (by rw [hml]; rfl) rfl 1 (by show 2 * 0 + _ ≤ _; exact Nat.le_of_eq rfl) (hb hby d2_31) (by decide) (by decide) (by decide) (by decide)
    have N7 := Fr.app N6 Nc7
    have o_E_7 := o_E_6.keep Kc7
    have c_E_7 := c_E_6.keep Kc7
    have c_A_7 := A6.keep Kc7 (ninS (Ne.symm ne_a4_a5) nin0)
    have cs_7 := own_Sta_keep1 cs_6 Kc7 o_E_6
    have K7 := K6.trans Kc7 (allS (Or.inr fra4) all0)
    refine own_go st7 ?_
    show own_Go p e below _ (T7.setTop (mkF m 34 #[.val (.int (1 : Int32)), .val (.int c0), .val (.int c1)] [(.ref a4)]))
    have hCk := CHr.keep (ws := []) K7 (fun x q => nomatch q) H0
    have hCt : CHr Z own_EL s.vm s.heap s.vm T7.heap := by rw [eh]; exact hCk
    exact own_aretW X7 hx hlk hret rfl rfl (hb hby d2_34) hZ hEL hS0 K7.1 rfl hCt (by decide) (by decide) ⟨a4, rfl, N7, K7, fra4, S7⟩
  · skip
    show own_Go p e below _ (T.setTop (mkF m 0 #[.val (.int (2 : Int32)), .val (.int c0), .val (.int c1)] []))
    refine own_go (fun _ => XS.iloadN X.here hx rfl (hb hby d2_0) rfl) ?_
    show own_Go p e below _ (T.setTop (mkF m 1 #[.val (.int (2 : Int32)), .val (.int c0), .val (.int c1)] [(.int (2 : Int32))]))
    refine own_go (fun _ => XS.ifYes X.here hx rfl (pc0 := 1) (pc' := 15) rfl (hb hby d2_1) rfl (XT.i0_ne_t (by decide)) (by decide) (by decide)) ?_
    show own_Go p e below _ (T.setTop (mkF m 15 #[.val (.int (2 : Int32)), .val (.int c0), .val (.int c1)] []))
    refine own_go (fun _ => XS.iloadN X.here hx rfl (hb hby d2_15) rfl) ?_
    show own_Go p e below _ (T.setTop (mkF m 16 #[.val (.int (2 : Int32)), .val (.int c0), .val (.int c1)] [(.int (2 : Int32))]))
    refine own_go (fun _ => XS.iconst X.here hx rfl (hb hby d2_16)) ?_
    show own_Go p e below _ (T.setTop (mkF m 17 #[.val (.int (2 : Int32)), .val (.int c0), .val (.int c1)] [(.int (1 : Int32)), (.int (2 : Int32))]))
    refine own_go (fun _ => XS.icmpYes X.here hx rfl (pc0 := 17) (pc' := 35) rfl (hb hby d2_17) rfl (XT.ii_ne_t (by decide)) (by decide) (by decide)) ?_
    show own_Go p e below _ (T.setTop (mkF m 35 #[.val (.int (2 : Int32)), .val (.int c0), .val (.int c1)] []))
    obtain ⟨T8, h8, X8, e8, E8, C8, D8, -, st8⟩ := newO X hx hZ hown (hw _ (List.mem_of_getElem? (i := 7) rfl)) (hw _ (List.mem_of_getElem? (i := 8) rfl)) (hw _ (List.mem_of_getElem? (i := 9) rfl)) eT (g := (mkF m 35 #[.val (.int (2 : Int32)), .val (.int c0), .val (.int c1)] [])) rfl (hb hby d2_35) (by decide) (by decide)
    obtain ⟨a8, q8⟩ : ∃ z, z = h0.size := ⟨_, rfl⟩
    rw [← q8] at C8 D8 st8
    have cs_8 := cs_S0.ext E8
    have K8 := K0.ext E8
    have o_value_8 := D8 (Or.inr (hw _ (List.mem_of_getElem? (i := 36) rfl))) (ty := (.array .byte)) (by decide)
    have o_coder_8 := D8 (Or.inr (hw _ (List.mem_of_getElem? (i := 34) rfl))) (ty := .byte) (by decide)
    refine own_go st8 ?_
    show own_Go p e below _ (T8.setTop (mkF m 38 #[.val (.int (2 : Int32)), .val (.int c0), .val (.int c1)] [(.ref a8)]))
    refine own_go (fun _ => XS.dup X8.here hx rfl (hb hby d2_38) rfl rfl) ?_
    show own_Go p e below _ (T8.setTop (mkF m 39 #[.val (.int (2 : Int32)), .val (.int c0), .val (.int c1)] [(.ref a8), (.ref a8)]))
    refine own_go (fun _ => XS.iconst X8.here hx rfl (hb hby d2_39)) ?_
    show own_Go p e below _ (T8.setTop (mkF m 40 #[.val (.int (2 : Int32)), .val (.int c0), .val (.int c1)] [(.int (2 : Int32)), (.ref a8), (.ref a8)]))
    obtain ⟨T9, h9, X9, e9, E9, A9, C9, st9⟩ := own_newAE X8 hx hZ (aty := .char) (hw _ (List.mem_of_getElem? (i := 10) rfl)) e8 (g := (mkF m 40 #[.val (.int (2 : Int32)), .val (.int c0), .val (.int c1)] [(.int (2 : Int32)), (.ref a8), (.ref a8)])) rfl (hb hby d2_40) rfl 2 2 (by decide) (by decide) (by decide) (by decide) (by decide) (ad := "[C") (by first | rfl | decide)
    obtain ⟨a9, q9⟩ : ∃ z, z = h8.size := ⟨_, rfl⟩
    rw [← q9] at A9 C9 st9
    have ne_a8_a9 : a8 ≠ a9 := fun z => absurd C8.lt (by rw [z, q9]; exact Nat.lt_irrefl _)
    have cs_9 := cs_8.ext E9
    have o_E_9 := C8.ext E9
    have o_value_9 := o_value_8.ext E9
    have o_coder_9 := o_coder_8.ext E9
    have K9 := K8.ext E9
    refine own_go st9 ?_
    show own_Go p e below _ (T9.setTop (mkF m 42 #[.val (.int (2 : Int32)), .val (.int c0), .val (.int c1)] [(.ref a9), (.ref a8), (.ref a8)]))
    have fra9 : h0.size ≤ a9 := by rw [q9]; exact K8.1
    have fra8 : h0.size ≤ a8 := Nat.le_of_eq q8.symm
    refine own_go (fun _ => XS.dup X9.here hx rfl (hb hby d2_42) rfl rfl) ?_
    show own_Go p e below _ (T9.setTop (mkF m 43 #[.val (.int (2 : Int32)), .val (.int c0), .val (.int c1)] [(.ref a9), (.ref a9), (.ref a8), (.ref a8)]))
    refine own_go (fun _ => XS.iconst X9.here hx rfl (hb hby d2_43)) ?_
    show own_Go p e below _ (T9.setTop (mkF m 44 #[.val (.int (2 : Int32)), .val (.int c0), .val (.int c1)] [(.int (0 : Int32)), (.ref a9), (.ref a9), (.ref a8), (.ref a8)]))
    refine own_go (fun _ => XS.iloadN X9.here hx rfl (hb hby d2_44) rfl) ?_
    show own_Go p e below _ (T9.setTop (mkF m 45 #[.val (.int (2 : Int32)), .val (.int c0), .val (.int c1)] [(.int c0), (.int (0 : Int32)), (.ref a9), (.ref a9), (.ref a8), (.ref a8)]))
    obtain ⟨T10, h10, X10, e10, W10, A10, st10⟩ := own_stC X9 hx hZ e9 A9 (x := c0) (g := (mkF m 45 #[.val (.int (2 : Int32)), .val (.int c0), .val (.int c1)] [(.int c0), (.int (0 : Int32)), (.ref a9), (.ref a9), (.ref a8), (.ref a8)])) rfl rfl (hb hby d2_45) 0 (by decide) (by simp) (by omega)
    have N10 := Fr.snoc X10 N0 (Nat.le_trans gn fra9)
    have cs_10 := cs_9.wr W10
    have o_E_10 := o_E_9.wr W10
    have o_value_10 := o_value_9.other W10 (Or.inl ne_a8_a9)
    have o_coder_10 := o_coder_9.other W10 (Or.inl ne_a8_a9)
    have c_E_10 := C9.wr W10
    have K10 := K9.wr W10 (Or.inr fra9)
    refine own_go st10 ?_
    show own_Go p e below _ (T10.setTop (mkF m 46 #[.val (.int (2 : Int32)), .val (.int c0), .val (.int c1)] [(.ref a9), (.ref a8), (.ref a8)]))
    refine own_go (fun _ => XS.dup X10.here hx rfl (hb hby d2_46) rfl rfl) ?_
    show own_Go p e below _ (T10.setTop (mkF m 47 #[.val (.int (2 : Int32)), .val (.int c0), .val (.int c1)] [(.ref a9), (.ref a9), (.ref a8), (.ref a8)]))
    refine own_go (fun _ => XS.iconst X10.here hx rfl (hb hby d2_47)) ?_
    show own_Go p e below _ (T10.setTop (mkF m 48 #[.val (.int (2 : Int32)), .val (.int c0), .val (.int c1)] [(.int (1 : Int32)), (.ref a9), (.ref a9), (.ref a8), (.ref a8)]))
    refine own_go (fun _ => XS.iloadN X10.here hx rfl (hb hby d2_48) rfl) ?_
    show own_Go p e below _ (T10.setTop (mkF m 49 #[.val (.int (2 : Int32)), .val (.int c0), .val (.int c1)] [(.int c1), (.int (1 : Int32)), (.ref a9), (.ref a9), (.ref a8), (.ref a8)]))
    obtain ⟨T11, h11, X11, e11, W11, A11, st11⟩ := own_stC X10 hx hZ e10 A10 (x := c1) (g := (mkF m 49 #[.val (.int (2 : Int32)), .val (.int c0), .val (.int c1)] [(.int c1), (.int (1 : Int32)), (.ref a9), (.ref a9), (.ref a8), (.ref a8)])) rfl rfl (hb hby d2_49) 1 (by decide) (by simp) (by omega)
    have N11 := Fr.snoc X11 N10 (Nat.le_trans gn fra9)
    have cs_11 := cs_10.wr W11
    have o_E_11 := o_E_10.wr W11
    have o_value_11 := o_value_10.other W11 (Or.inl ne_a8_a9)
    have o_coder_11 := o_coder_10.other W11 (Or.inl ne_a8_a9)
    have c_E_11 := c_E_10.wr W11
    have K11 := K10.wr W11 (Or.inr fra9)
    refine own_go st11 ?_
    show own_Go p e below _ (T11.setTop (mkF m 50 #[.val (.int (2 : Int32)), .val (.int c0), .val (.int c1)] [(.ref a9), (.ref a8), (.ref a8)]))
    obtain ⟨_, T12, L12, X12, ⟨rfl, Nc12, Kc12, S12⟩, st12⟩ := own_callI X11 hx hZ hown rfl (argsL := [(.ref a9)]) (rest := [(.ref a8)]) (own_init1_2_con l Z a0 hw a8 a9 zc c0 c1 n0 h11 o_E_11 o_value_11 o_coder_11 cs_11 hzc A11 hc0 hc1 ne_a8_a9 (Nat.le_trans gn fra8) (Nat.le_trans gn K11.1) []) e11 (hw _ (List.mem_of_getElem? (i := 11) rfl)) (hw _ (List.mem_of_getElem? (i := 12) rfl)) (hw _ (List.mem_of_getElem? (i := 9) rfl)) (hw _ (List.mem_of_getElem? (i := 13) rfl)) (by decide) (by decide +kernel : parseMethodDescriptor "([C)V" = some ⟨[(.array .char)], none⟩) rfl (g := (mkF m 50 #[.val (.int (2 : Int32)), .val (.int c0), .val (.int c1)] [(.ref a9), (.ref a8), (.ref a8)])) rfl (by rw [hml]; rfl) rfl 1 (by show 2 * 0 + _ ≤ _; exact Nat.le_of_eq rfl) (hb hby d2_50) (by decide) (by decide) (by decide) (by decide)
    have N12 := Fr.app N11 Nc12
    have o_E_12 := o_E_11.keep Kc12
    have c_E_12 := c_E_11.keep Kc12
    have c_A_12 := A11.keep Kc12 (ninS (Ne.symm ne_a8_a9) nin0)
    have cs_12 := own_Sta_keep1 cs_11 Kc12 o_E_11
    have K12 := K11.trans Kc12 (allS (Or.inr fra8) all0)
    refine own_go st12 ?_
    show own_Go p e below _ (T12.setTop (mkF m 53 #[.val (.int (2 : Int32)), .val (.int c0), .val (.int c1)] [(.ref a8)]))
    have hCk := CHr.keep (ws := []) K12 (fun x q => nomatch q) H0
    have hCt : CHr Z own_EL s.vm s.heap s.vm T12.heap := by rw [eh]; exact hCk
    exact own_aretW X12 hx hlk hret rfl rfl (hb hby d2_53) hZ hEL hS0 K12.1 rfl hCt (by decide) (by decide) ⟨a8, rfl, N12, K12, fra8, S12⟩
theorem d14_0 : decode jdk_43_method_13_code 0 = .ok (.aload_n 0, 1) := by decide +kernel
theorem d14_1 : decode jdk_43_method_13_code 1 = .ok (.arraylength, 1) := by decide +kernel
theorem d14_2 : decode jdk_43_method_13_code 2 = .ok (.aload_n 1, 1) := by decide +kernel
theorem d14_3 : decode jdk_43_method_13_code 3 = .ok (.arraylength, 1) := by decide +kernel
theorem d14_4 : decode jdk_43_method_13_code 4 = .ok (.if_icmp .ne 30, 3) := by decide +kernel
theorem d14_7 : decode jdk_43_method_13_code 7 = .ok (.iconst 0, 1) := by decide +kernel
theorem d14_8 : decode jdk_43_method_13_code 8 = .ok (.istore_n 2, 1) := by decide +kernel
theorem d14_9 : decode jdk_43_method_13_code 9 = .ok (.iload_n 2, 1) := by decide +kernel
theorem d14_10 : decode jdk_43_method_13_code 10 = .ok (.aload_n 0, 1) := by decide +kernel
theorem d14_11 : decode jdk_43_method_13_code 11 = .ok (.arraylength, 1) := by decide +kernel
theorem d14_12 : decode jdk_43_method_13_code 12 = .ok (.if_icmp .ge 20, 3) := by decide +kernel
theorem d14_15 : decode jdk_43_method_13_code 15 = .ok (.aload_n 0, 1) := by decide +kernel
theorem d14_16 : decode jdk_43_method_13_code 16 = .ok (.iload_n 2, 1) := by decide +kernel
theorem d14_17 : decode jdk_43_method_13_code 17 = .ok (.baload, 1) := by decide +kernel
theorem d14_18 : decode jdk_43_method_13_code 18 = .ok (.aload_n 1, 1) := by decide +kernel
theorem d14_19 : decode jdk_43_method_13_code 19 = .ok (.iload_n 2, 1) := by decide +kernel
theorem d14_20 : decode jdk_43_method_13_code 20 = .ok (.baload, 1) := by decide +kernel
theorem d14_21 : decode jdk_43_method_13_code 21 = .ok (.if_icmp .eq 5, 3) := by decide +kernel
theorem d14_24 : decode jdk_43_method_13_code 24 = .ok (.iconst 0, 1) := by decide +kernel
theorem d14_25 : decode jdk_43_method_13_code 25 = .ok (.ireturn, 1) := by decide +kernel
theorem d14_26 : decode jdk_43_method_13_code 26 = .ok (.iinc 2 1, 3) := by decide +kernel
theorem d14_29 : decode jdk_43_method_13_code 29 = .ok (.goto (-20), 3) := by decide +kernel
theorem d14_32 : decode jdk_43_method_13_code 32 = .ok (.iconst 1, 1) := by decide +kernel
theorem d14_33 : decode jdk_43_method_13_code 33 = .ok (.ireturn, 1) := by decide +kernel
theorem d14_34 : decode jdk_43_method_13_code 34 = .ok (.iconst 0, 1) := by decide +kernel
theorem d14_35 : decode jdk_43_method_13_code 35 = .ok (.ireturn, 1) := by decide +kernel
set_option maxRecDepth 65536 in
set_option maxHeartbeats 40000000 in
theorem own_eqL_con (l : Launch) (Z : State) (a0 : Array Value) (hw : ∀ d ∈ tables_1, d.before a0 Z = true) (b1 b2 : Addr) (ul vl : List Int32) (h0 : Heap) (u_A0 : own_AV Z h0 b1 .byte (ul.map Value.int)) (v_A0 : own_AV Z h0 b2 .byte (vl.map Value.int)) (ws : List Jvm.Cond) :
    own_Con l Z (⟨"java/lang/StringLatin1", "equals", "([B[B)Z"⟩ : MethodName) jdk_43_method_13_code 3 (some .boolean) ({ frames := 0, cells := 0, slots := 0, locals := 0 } : Room) #[(.ref b1), (.ref b2)] h0 (own_PQ h0 (.int (if ul = vl then (1 : Int32) else 0))) ws := by
  refine own_con (F := fun m => (mkF m 0 #[.val (.ref b1), .val (.ref b2), .unset] [])) (own_pn (by first | (simp [plainName, overriddenIn]; done) | decide +kernel)) (fun m => by first | (simp [entryFrame, mkF, argsToLocals, Value.category]; done) | rfl) ?_
  intro p e s m below meth c T X hx hby hml hZ hown hnm hret hlk eT
  show own_Go p e below (own_Out s (own_PQ h0 (.int (if ul = vl then (1 : Int32) else 0))) ({ frames := 0, cells := 0, slots := 0, locals := 0 } : Room).cells ({ frames := 0, cells := 0, slots := 0, locals := 0 } : Room).slots) (T.setTop (mkF m 0 #[.val (.ref b1), .val (.ref b2), .unset] []))
  have hu := u_A0.short
  have hv := v_A0.short
  rw [List.length_map] at hu hv
  obtain ⟨z, hz⟩ : ∃ z : Int32, z = ul.length.toInt32 := ⟨_, rfl⟩
  obtain ⟨y, hy⟩ : ∃ y : Int32, y = vl.length.toInt32 := ⟨_, rfl⟩
  have ez : z.toInt = ul.length := by rw [hz]; exact len_toInt hu
  have ey : y.toInt = vl.length := by rw [hy]; exact len_toInt hv
  refine own_go (fun _ => XS.aloadN X.here hx rfl (hb hby d14_0) rfl rfl) ?_
  show own_Go p e below _ (T.setTop (mkF m 1 #[.val (.ref b1), .val (.ref b2), .unset] [(.ref b1)]))
  refine own_go (own_len X hx hZ eT u_A0 (g := (mkF m 1 #[.val (.ref b1), .val (.ref b2), .unset] [(.ref b1)])) rfl rfl (hb hby d14_1) z (by rw [List.length_map]; exact ez)) ?_
  show own_Go p e below _ (T.setTop (mkF m 2 #[.val (.ref b1), .val (.ref b2), .unset] [(.int z)]))
  refine own_go (fun _ => XS.aloadN X.here hx rfl (hb hby d14_2) rfl rfl) ?_
  show own_Go p e below _ (T.setTop (mkF m 3 #[.val (.ref b1), .val (.ref b2), .unset] [(.ref b2), (.int z)]))
  refine own_go (own_len X hx hZ eT v_A0 (g := (mkF m 3 #[.val (.ref b1), .val (.ref b2), .unset] [(.ref b2), (.int z)])) rfl rfl (hb hby d14_3) y (by rw [List.length_map]; exact ey)) ?_
  show own_Go p e below _ (T.setTop (mkF m 4 #[.val (.ref b1), .val (.ref b2), .unset] [(.int y), (.int z)]))
  by_cases cz : z = y
  · skip
    refine own_go (fun _ => XS.icmpNo X.here hx rfl (hb hby d14_4) rfl (XT.ii_ne_f cz)) ?_
    show own_Go p e below _ (T.setTop (mkF m 7 #[.val (.ref b1), .val (.ref b2), .unset] []))
    have hlen : ul.length = vl.length := by rw [cz, ey] at ez; omega
    have G9 : ∀ (d j : Nat) (i : Int32), i.toInt = j → j + d = ul.length → ul.take j = vl.take j → own_Go p e below (own_Out s (own_PQ h0 (.int (if ul = vl then (1 : Int32) else 0))) ({ frames := 0, cells := 0, slots := 0, locals := 0 } : Room).cells ({ frames := 0, cells := 0, slots := 0, locals := 0 } : Room).slots) (T.setTop (mkF m 9 #[.val (.ref b1), .val (.ref b2), .val (.int i)] [])) := by
      intro d
      induction d with
      | zero =>
        intro j i hi hj hp
        show own_Go p e below _ (T.setTop (mkF m 9 #[.val (.ref b1), .val (.ref b2), .val (.int i)] []))
        refine own_go (fun _ => XS.iloadN X.here hx rfl (hb hby d14_9) rfl) ?_
        show own_Go p e below _ (T.setTop (mkF m 10 #[.val (.ref b1), .val (.ref b2), .val (.int i)] [(.int i)]))
        refine own_go (fun _ => XS.aloadN X.here hx rfl (hb hby d14_10) rfl rfl) ?_
        show own_Go p e below _ (T.setTop (mkF m 11 #[.val (.ref b1), .val (.ref b2), .val (.int i)] [(.ref b1), (.int i)]))
        refine own_go (own_len X hx hZ eT u_A0 (g := (mkF m 11 #[.val (.ref b1), .val (.ref b2), .val (.int i)] [(.ref b1), (.int i)])) rfl rfl (hb hby d14_11) z (by rw [List.length_map]; exact ez)) ?_
        show own_Go p e below _ (T.setTop (mkF m 12 #[.val (.ref b1), .val (.ref b2), .val (.int i)] [(.int z), (.int i)]))
        refine own_go (fun _ => XS.icmpYes X.here hx rfl (pc0 := 12) (pc' := 32) rfl (hb hby d14_12) rfl (XT.ii_ge_t (by rw [Int32.lt_iff_toInt_lt]; omega)) (by decide) (by decide)) ?_
        show own_Go p e below _ (T.setTop (mkF m 32 #[.val (.ref b1), .val (.ref b2), .val (.int i)] []))
        refine own_go (fun _ => XS.iconst X.here hx rfl (hb hby d14_32)) ?_
        show own_Go p e below _ (T.setTop (mkF m 33 #[.val (.ref b1), .val (.ref b2), .val (.int i)] [(.int (1 : Int32))]))
        have eq : ul = vl := by
          rw [List.take_of_length_le (by omega), List.take_of_length_le (by omega)] at hp
          exact hp
        exact own_iret X hx hlk hret (Or.inr (Or.inl rfl)) rfl (hb hby d14_33) (by decide) (by decide) ⟨by rw [if_pos eq], eT, rfl⟩
      | succ d ih =>
        intro j i hi hj hp
        show own_Go p e below _ (T.setTop (mkF m 9 #[.val (.ref b1), .val (.ref b2), .val (.int i)] []))
        refine own_go (fun _ => XS.iloadN X.here hx rfl (hb hby d14_9) rfl) ?_
        show own_Go p e below _ (T.setTop (mkF m 10 #[.val (.ref b1), .val (.ref b2), .val (.int i)] [(.int i)]))
        refine own_go (fun _ => XS.aloadN X.here hx rfl (hb hby d14_10) rfl rfl) ?_
        show own_Go p e below _ (T.setTop (mkF m 11 #[.val (.ref b1), .val (.ref b2), .val (.int i)] [(.ref b1), (.int i)]))
        refine own_go (own_len X hx hZ eT u_A0 (g := (mkF m 11 #[.val (.ref b1), .val (.ref b2), .val (.int i)] [(.ref b1), (.int i)])) rfl rfl (hb hby d14_11) z (by rw [List.length_map]; exact ez)) ?_
        show own_Go p e below _ (T.setTop (mkF m 12 #[.val (.ref b1), .val (.ref b2), .val (.int i)] [(.int z), (.int i)]))
        refine own_go (fun _ => XS.icmpNo X.here hx rfl (hb hby d14_12) rfl (XT.ii_ge_f (by rw [Int32.lt_iff_toInt_lt]; omega))) ?_
        show own_Go p e below _ (T.setTop (mkF m 15 #[.val (.ref b1), .val (.ref b2), .val (.int i)] []))
        refine own_go (fun _ => XS.aloadN X.here hx rfl (hb hby d14_15) rfl rfl) ?_
        show own_Go p e below _ (T.setTop (mkF m 16 #[.val (.ref b1), .val (.ref b2), .val (.int i)] [(.ref b1)]))
        refine own_go (fun _ => XS.iloadN X.here hx rfl (hb hby d14_16) rfl) ?_
        show own_Go p e below _ (T.setTop (mkF m 17 #[.val (.ref b1), .val (.ref b2), .val (.int i)] [(.int i), (.ref b1)]))
        have lu : j < ul.length := by omega
        have lv : j < vl.length := by omega
        refine own_go (own_ldB X hx hZ eT u_A0 (g := (mkF m 17 #[.val (.ref b1), .val (.ref b2), .val (.int i)] [(.int i), (.ref b1)])) rfl rfl (hb hby d14_17) j hi (x := (.int (ul[j]'lu))) (by rw [List.getElem?_map, List.getElem?_eq_getElem lu]; rfl)) ?_
        show own_Go p e below _ (T.setTop (mkF m 18 #[.val (.ref b1), .val (.ref b2), .val (.int i)] [(.int (ul[j]'lu))]))
        refine own_go (fun _ => XS.aloadN X.here hx rfl (hb hby d14_18) rfl rfl) ?_
        show own_Go p e below _ (T.setTop (mkF m 19 #[.val (.ref b1), .val (.ref b2), .val (.int i)] [(.ref b2), (.int (ul[j]'lu))]))
        refine own_go (fun _ => XS.iloadN X.here hx rfl (hb hby d14_19) rfl) ?_
        show own_Go p e below _ (T.setTop (mkF m 20 #[.val (.ref b1), .val (.ref b2), .val (.int i)] [(.int i), (.ref b2), (.int (ul[j]'lu))]))
        refine own_go (own_ldB X hx hZ eT v_A0 (g := (mkF m 20 #[.val (.ref b1), .val (.ref b2), .val (.int i)] [(.int i), (.ref b2), (.int (ul[j]'lu))])) rfl rfl (hb hby d14_20) j hi (x := (.int (vl[j]'lv))) (by rw [List.getElem?_map, List.getElem?_eq_getElem lv]; rfl)) ?_
        show own_Go p e below _ (T.setTop (mkF m 21 #[.val (.ref b1), .val (.ref b2), .val (.int i)] [(.int (vl[j]'lv)), (.int (ul[j]'lu))]))
        by_cases cx : (ul[j]'lu) = (vl[j]'lv)
        · skip
          refine own_go (fun _ => XS.icmpYes X.here hx rfl (pc0 := 21) (pc' := 26) rfl (hb hby d14_21) rfl (XT.ii_eq_t cx) (by decide) (by decide)) ?_
          show own_Go p e below _ (T.setTop (mkF m 26 #[.val (.ref b1), .val (.ref b2), .val (.int i)] []))
          refine own_go (fun _ => XT.iincV X.here hx rfl (1 : Int32) (hb hby d14_26) rfl rfl (l' := #[.val (.ref b1), .val (.ref b2), .val (.int (i + (1 : Int32)))]) rfl) ?_
          show own_Go p e below _ (T.setTop (mkF m 29 #[.val (.ref b1), .val (.ref b2), .val (.int (i + (1 : Int32)))] []))
          refine own_go (fun _ => XS.goto X.here hx rfl (pc0 := 29) (pc' := 9) rfl (hb hby d14_29) (by decide) (by decide)) ?_
          show own_Go p e below _ (T.setTop (mkF m 9 #[.val (.ref b1), .val (.ref b2), .val (.int (i + (1 : Int32)))] []))
          show own_Go p e below _ (T.setTop (mkF m 9 #[.val (.ref b1), .val (.ref b2), .val (.int (i + (1 : Int32)))] []))
          refine ih (j + 1) _ ?_ (by omega) ?_
          · have := Int32.toInt_lt i; have := ul.length; rw [Int32.toInt_add]; simp only [Int32.reduceToInt]; rw [Int.bmod_eq_of_le] <;> omega
          · rw [List.take_succ_eq_append_getElem lu, List.take_succ_eq_append_getElem lv, hp, cx]
        · skip
          refine own_go (fun _ => XS.icmpNo X.here hx rfl (hb hby d14_21) rfl (XT.ii_eq_f cx)) ?_
          show own_Go p e below _ (T.setTop (mkF m 24 #[.val (.ref b1), .val (.ref b2), .val (.int i)] []))
          refine own_go (fun _ => XS.iconst X.here hx rfl (hb hby d14_24)) ?_
          show own_Go p e below _ (T.setTop (mkF m 25 #[.val (.ref b1), .val (.ref b2), .val (.int i)] [(.int (0 : Int32))]))
          have ne : ¬ ul = vl := fun q => cx (by subst q; rfl)
          exact own_iret X hx hlk hret (Or.inr (Or.inl rfl)) rfl (hb hby d14_25) (by decide) (by decide) ⟨by rw [if_neg ne], eT, rfl⟩
    refine own_go (fun _ => XS.iconst X.here hx rfl (hb hby d14_7)) ?_
    show own_Go p e below _ (T.setTop (mkF m 8 #[.val (.ref b1), .val (.ref b2), .unset] [(.int (0 : Int32))]))
    refine own_go (fun _ => XS.istoreN X.here hx rfl (hb hby d14_8) rfl (l' := #[.val (.ref b1), .val (.ref b2), .val (.int (0 : Int32))]) rfl) ?_
    show own_Go p e below _ (T.setTop (mkF m 9 #[.val (.ref b1), .val (.ref b2), .val (.int (0 : Int32))] []))
    show own_Go p e below _ (T.setTop (mkF m 9 #[.val (.ref b1), .val (.ref b2), .val (.int (0 : Int32))] []))
    exact G9 ul.length 0 _ (by decide) (by omega) rfl
  · skip
    refine own_go (fun _ => XS.icmpYes X.here hx rfl (pc0 := 4) (pc' := 34) rfl (hb hby d14_4) rfl (XT.ii_ne_t cz) (by decide) (by decide)) ?_
    show own_Go p e below _ (T.setTop (mkF m 34 #[.val (.ref b1), .val (.ref b2), .unset] []))
    refine own_go (fun _ => XS.iconst X.here hx rfl (hb hby d14_34)) ?_
    show own_Go p e below _ (T.setTop (mkF m 35 #[.val (.ref b1), .val (.ref b2), .unset] [(.int (0 : Int32))]))
    have ne : ¬ ul = vl := fun q => cz (by rw [hz, hy, q])
    exact own_iret X hx hlk hret (Or.inr (Or.inl rfl)) rfl (hb hby d14_35) (by decide) (by decide) ⟨by rw [if_neg ne], eT, rfl⟩
theorem d13_0 : decode jdk_42_method_66_code 0 = .ok (.aload_n 0, 1) := by decide +kernel
theorem d13_1 : decode jdk_42_method_66_code 1 = .ok (.aload_n 1, 1) := by decide +kernel
theorem d13_2 : decode jdk_42_method_66_code 2 = .ok (.if_acmp .ne 5, 3) := by decide +kernel
theorem d13_7 : decode jdk_42_method_66_code 7 = .ok (.aload_n 1, 1) := by decide +kernel
theorem d13_8 : decode jdk_42_method_66_code 8 = .ok (.instanceof 10, 3) := by decide +kernel
theorem d13_11 : decode jdk_42_method_66_code 11 = .ok (.ifCond .eq 43, 3) := by decide +kernel
theorem d13_14 : decode jdk_42_method_66_code 14 = .ok (.aload_n 1, 1) := by decide +kernel
theorem d13_15 : decode jdk_42_method_66_code 15 = .ok (.checkcast 10, 3) := by decide +kernel
theorem d13_18 : decode jdk_42_method_66_code 18 = .ok (.astore_n 2, 1) := by decide +kernel
theorem d13_19 : decode jdk_42_method_66_code 19 = .ok (.getstatic 38, 3) := by decide +kernel
theorem d13_22 : decode jdk_42_method_66_code 22 = .ok (.ifCond .eq 14, 3) := by decide +kernel
theorem d13_25 : decode jdk_42_method_66_code 25 = .ok (.aload_n 0, 1) := by decide +kernel
theorem d13_26 : decode jdk_42_method_66_code 26 = .ok (.getfield 15, 3) := by decide +kernel
theorem d13_29 : decode jdk_42_method_66_code 29 = .ok (.aload_n 2, 1) := by decide +kernel
theorem d13_30 : decode jdk_42_method_66_code 30 = .ok (.getfield 15, 3) := by decide +kernel
theorem d13_33 : decode jdk_42_method_66_code 33 = .ok (.if_icmp .ne 21, 3) := by decide +kernel
theorem d13_36 : decode jdk_42_method_66_code 36 = .ok (.aload_n 0, 1) := by decide +kernel
theorem d13_37 : decode jdk_42_method_66_code 37 = .ok (.getfield 9, 3) := by decide +kernel
theorem d13_40 : decode jdk_42_method_66_code 40 = .ok (.aload_n 2, 1) := by decide +kernel
theorem d13_41 : decode jdk_42_method_66_code 41 = .ok (.getfield 9, 3) := by decide +kernel
theorem d13_44 : decode jdk_42_method_66_code 44 = .ok (.invokestatic 541, 3) := by decide +kernel
theorem d13_47 : decode jdk_42_method_66_code 47 = .ok (.ifCond .eq 7, 3) := by decide +kernel
theorem d13_50 : decode jdk_42_method_66_code 50 = .ok (.iconst 1, 1) := by decide +kernel
theorem d13_51 : decode jdk_42_method_66_code 51 = .ok (.goto 4, 3) := by decide +kernel
theorem d13_54 : decode jdk_42_method_66_code 54 = .ok (.iconst 0, 1) := by decide +kernel
theorem d13_55 : decode jdk_42_method_66_code 55 = .ok (.ireturn, 1) := by decide +kernel
set_option maxRecDepth 65536 in
set_option maxHeartbeats 40000000 in
theorem own_eqS_con (l : Launch) (Z : State) (a0 : Array Value) (hw : ∀ d ∈ tables_1, d.before a0 Z = true) (a b : Addr) (zc : Int32) (ul vl : List Int32) (h0 : Heap) (hA : own_Str Z h0 a ul) (hB : own_Str Z h0 b vl) (cs_S0 : Sta Z h0 "java/lang/String" "COMPACT_STRINGS" "Z" (.int zc)) (hzc : ¬ zc = 0) (hab : a ≠ b) (ws : List Jvm.Cond) :
    own_Con l Z (⟨"java/lang/String", "equals", "(Ljava/lang/Object;)Z"⟩ : MethodName) jdk_42_method_66_code 3 (some .boolean) ({ frames := 1, cells := 0, slots := 0, locals := 30 } : Room) #[(.ref a), (.ref b)] h0 (own_PQ h0 (.int (if ul = vl then (1 : Int32) else 0))) ws := by
  refine own_con (F := fun m => (mkF m 0 #[.val (.ref a), .val (.ref b), .unset] [])) (own_pn (by first | (simp [plainName, overriddenIn]; done) | decide +kernel)) (fun m => by first | (simp [entryFrame, mkF, argsToLocals, Value.category]; done) | rfl) ?_
  intro p e s m below meth c T X hx hby hml hZ hown hnm hret hlk eT
  show own_Go p e below (own_Out s (own_PQ h0 (.int (if ul = vl then (1 : Int32) else 0))) ({ frames := 1, cells := 0, slots := 0, locals := 30 } : Room).cells ({ frames := 1, cells := 0, slots := 0, locals := 30 } : Room).slots) (T.setTop (mkF m 0 #[.val (.ref a), .val (.ref b), .unset] []))
  obtain ⟨o_E0, b1, o_value0, o_coder0, u_A0⟩ := hA
  obtain ⟨u_E0, b2, u_value0, u_coder0, v_A0⟩ := hB
  refine own_go (fun _ => XS.aloadN X.here hx rfl (hb hby d13_0) rfl rfl) ?_
  show own_Go p e below _ (T.setTop (mkF m 1 #[.val (.ref a), .val (.ref b), .unset] [(.ref a)]))
  refine own_go (fun _ => XS.aloadN X.here hx rfl (hb hby d13_1) rfl rfl) ?_
  show own_Go p e below _ (T.setTop (mkF m 2 #[.val (.ref a), .val (.ref b), .unset] [(.ref b), (.ref a)]))
  refine own_go (fun _ => XT.acmpYes X.here hx rfl (pc0 := 2) (pc' := 7) rfl (hb hby d13_2) rfl rfl rfl (by simp [XT.acmp, hab]) (by decide) (by decide)) ?_
  show own_Go p e below _ (T.setTop (mkF m 7 #[.val (.ref a), .val (.ref b), .unset] []))
  refine own_go (fun _ => XS.aloadN X.here hx rfl (hb hby d13_7) rfl rfl) ?_
  show own_Go p e below _ (T.setTop (mkF m 8 #[.val (.ref a), .val (.ref b), .unset] [(.ref b)]))
  obtain ⟨T1, X1, e1, st1⟩ := instY X hx hZ hown (hw _ (List.mem_of_getElem? (i := 71) rfl)) eT (Ins.self u_E0) (g := (mkF m 8 #[.val (.ref a), .val (.ref b), .unset] [(.ref b)])) rfl rfl (hb hby d13_8)
  refine own_go st1 ?_
  show own_Go p e below _ (T1.setTop (mkF m 11 #[.val (.ref a), .val (.ref b), .unset] [(.int (1 : Int32))]))
  refine own_go (fun _ => XS.ifNo X1.here hx rfl (hb hby d13_11) rfl (XT.i0_eq_f (by decide))) ?_
  show own_Go p e below _ (T1.setTop (mkF m 14 #[.val (.ref a), .val (.ref b), .unset] []))
  refine own_go (fun _ => XS.aloadN X1.here hx rfl (hb hby d13_14) rfl rfl) ?_
  show own_Go p e below _ (T1.setTop (mkF m 15 #[.val (.ref a), .val (.ref b), .unset] [(.ref b)]))
  obtain ⟨T2, X2, e2, st2⟩ := castY X1 hx hZ hown (hw _ (List.mem_of_getElem? (i := 71) rfl)) e1 (Ins.self u_E0) (g := (mkF m 15 #[.val (.ref a), .val (.ref b), .unset] [(.ref b)])) rfl rfl (hb hby d13_15)
  refine own_go st2 ?_
  show own_Go p e below _ (T2.setTop (mkF m 18 #[.val (.ref a), .val (.ref b), .unset] [(.ref b)]))
  refine own_go (fun _ => XS.astoreN X2.here hx rfl (hb hby d13_18) rfl rfl (l' := #[.val (.ref a), .val (.ref b), .val (.ref b)]) rfl) ?_
  show own_Go p e below _ (T2.setTop (mkF m 19 #[.val (.ref a), .val (.ref b), .val (.ref b)] []))
  obtain ⟨T3, X3, e3, st3⟩ := getS2 X2 hx hZ hown (host := "") (Or.inl (hw _ (List.mem_of_getElem? (i := 21) rfl))) Via.refl e2 cs_S0 (g := (mkF m 19 #[.val (.ref a), .val (.ref b), .val (.ref b)] [])) rfl (hb hby d13_19)
  refine own_go st3 ?_
  show own_Go p e below _ (T3.setTop (mkF m 22 #[.val (.ref a), .val (.ref b), .val (.ref b)] [(.int zc)]))
  refine own_go (fun _ => XS.ifNo X3.here hx rfl (hb hby d13_22) rfl (XT.i0_eq_f hzc)) ?_
  show own_Go p e below _ (T3.setTop (mkF m 25 #[.val (.ref a), .val (.ref b), .val (.ref b)] []))
  refine own_go (fun _ => XS.aloadN X3.here hx rfl (hb hby d13_25) rfl rfl) ?_
  show own_Go p e below _ (T3.setTop (mkF m 26 #[.val (.ref a), .val (.ref b), .val (.ref b)] [(.ref a)]))
  obtain ⟨T4, X4, e4, st4⟩ := getF X3 hx hZ hown (host := "") (Or.inl (hw _ (List.mem_of_getElem? (i := 33) rfl))) Via.refl e3 o_coder0 (g := (mkF m 26 #[.val (.ref a), .val (.ref b), .val (.ref b)] [(.ref a)])) rfl rfl (hb hby d13_26)
  refine own_go st4 ?_
  show own_Go p e below _ (T4.setTop (mkF m 29 #[.val (.ref a), .val (.ref b), .val (.ref b)] [(.int (0 : Int32))]))
  refine own_go (fun _ => XS.aloadN X4.here hx rfl (hb hby d13_29) rfl rfl) ?_
  show own_Go p e below _ (T4.setTop (mkF m 30 #[.val (.ref a), .val (.ref b), .val (.ref b)] [(.ref b), (.int (0 : Int32))]))
  obtain ⟨T5, X5, e5, st5⟩ := getF X4 hx hZ hown (host := "") (Or.inl (hw _ (List.mem_of_getElem? (i := 33) rfl))) Via.refl e4 u_coder0 (g := (mkF m 30 #[.val (.ref a), .val (.ref b), .val (.ref b)] [(.ref b), (.int (0 : Int32))])) rfl rfl (hb hby d13_30)
  refine own_go st5 ?_
  show own_Go p e below _ (T5.setTop (mkF m 33 #[.val (.ref a), .val (.ref b), .val (.ref b)] [(.int (0 : Int32)), (.int (0 : Int32))]))
  refine own_go (fun _ => XS.icmpNo X5.here hx rfl (hb hby d13_33) rfl (XT.ii_ne_f rfl)) ?_
  show own_Go p e below _ (T5.setTop (mkF m 36 #[.val (.ref a), .val (.ref b), .val (.ref b)] []))
  refine own_go (fun _ => XS.aloadN X5.here hx rfl (hb hby d13_36) rfl rfl) ?_
  show own_Go p e below _ (T5.setTop (mkF m 37 #[.val (.ref a), .val (.ref b), .val (.ref b)] [(.ref a)]))
  obtain ⟨T6, X6, e6, st6⟩ := getF X5 hx hZ hown (host := "") (Or.inl (hw _ (List.mem_of_getElem? (i := 35) rfl))) Via.refl e5 o_value0 (g := (mkF m 37 #[.val (.ref a), .val (.ref b), .val (.ref b)] [(.ref a)])) rfl rfl (hb hby d13_37)
  refine own_go st6 ?_
  show own_Go p e below _ (T6.setTop (mkF m 40 #[.val (.ref a), .val (.ref b), .val (.ref b)] [(.ref b1)]))
  refine own_go (fun _ => XS.aloadN X6.here hx rfl (hb hby d13_40) rfl rfl) ?_
  show own_Go p e below _ (T6.setTop (mkF m 41 #[.val (.ref a), .val (.ref b), .val (.ref b)] [(.ref b), (.ref b1)]))
  obtain ⟨T7, X7, e7, st7⟩ := getF X6 hx hZ hown (host := "") (Or.inl (hw _ (List.mem_of_getElem? (i := 35) rfl))) Via.refl e6 u_value0 (g := (mkF m 41 #[.val (.ref a), .val (.ref b), .val (.ref b)] [(.ref b), (.ref b1)])) rfl rfl (hb hby d13_41)
  refine own_go st7 ?_
  show own_Go p e below _ (T7.setTop (mkF m 44 #[.val (.ref a), .val (.ref b), .val (.ref b)] [(.ref b2), (.ref b1)]))
  obtain ⟨_, T8, L8, X8, ⟨rfl, eh8, rfl⟩, st8⟩ := own_callS X7 hx hZ hown (argsL := [(.ref b1), (.ref b2)]) (rest := []) (own_eqL_con l Z a0 hw b1 b2 ul vl h0 u_A0 v_A0 []) e7 (hw _ (List.mem_of_getElem? (i := 72) rfl)) (hw _ (List.mem_of_getElem? (i := 73) rfl)) (hw _ (List.mem_of_getElem? (i := 74) rfl)) (hw _ (List.mem_of_getElem? (i := 75) rfl)) (by decide) (by decide +kernel : parseMethodDescriptor "([B[B)Z" = some ⟨[(.array .byte), (.array .byte)], some .boolean⟩) rfl (g := (mkF m 44 #[.val (.ref a), .val (.ref b), .val (.ref b)] [(.ref b2), (.ref b1)])) rfl (by rw [hml]; rfl) rfl 0 (by show 2 * 0 + _ ≤ _; exact Nat.le_of_eq rfl) (hb hby d13_44) (by decide) (by decide) (by decide) (by decide)
  rw [List.append_nil] at X8
  refine own_go st8 ?_
  show own_Go p e below _ (T8.setTop (mkF m 47 #[.val (.ref a), .val (.ref b), .val (.ref b)] [(.int (if ul = vl then (1 : Int32) else 0))]))
  show own_Go p e below _ (T8.setTop (mkF m 47 #[.val (.ref a), .val (.ref b), .val (.ref b)] [(.int (if ul = vl then (1 : Int32) else 0))]))
  by_cases cu : ul = vl
  · skip
    simp only [if_pos cu]
    show own_Go p e below _ (T8.setTop (mkF m 47 #[.val (.ref a), .val (.ref b), .val (.ref b)] [(.int (1 : Int32))]))
    refine own_go (fun _ => XS.ifNo X8.here hx rfl (hb hby d13_47) rfl (XT.i0_eq_f (by decide))) ?_
    show own_Go p e below _ (T8.setTop (mkF m 50 #[.val (.ref a), .val (.ref b), .val (.ref b)] []))
    refine own_go (fun _ => XS.iconst X8.here hx rfl (hb hby d13_50)) ?_
    show own_Go p e below _ (T8.setTop (mkF m 51 #[.val (.ref a), .val (.ref b), .val (.ref b)] [(.int (1 : Int32))]))
    refine own_go (fun _ => XS.goto X8.here hx rfl (pc0 := 51) (pc' := 55) rfl (hb hby d13_51) (by decide) (by decide)) ?_
    show own_Go p e below _ (T8.setTop (mkF m 55 #[.val (.ref a), .val (.ref b), .val (.ref b)] [(.int (1 : Int32))]))
    exact own_iret X8 hx hlk hret (Or.inr (Or.inl rfl)) rfl (hb hby d13_55) (by decide) (by decide) ⟨rfl, eh8, rfl⟩
  · skip
    simp only [if_neg cu]
    show own_Go p e below _ (T8.setTop (mkF m 47 #[.val (.ref a), .val (.ref b), .val (.ref b)] [(.int (0 : Int32))]))
    refine own_go (fun _ => XS.ifYes X8.here hx rfl (pc0 := 47) (pc' := 54) rfl (hb hby d13_47) rfl (XT.i0_eq_t (by decide)) (by decide) (by decide)) ?_
    show own_Go p e below _ (T8.setTop (mkF m 54 #[.val (.ref a), .val (.ref b), .val (.ref b)] []))
    refine own_go (fun _ => XS.iconst X8.here hx rfl (hb hby d13_54)) ?_
    show own_Go p e below _ (T8.setTop (mkF m 55 #[.val (.ref a), .val (.ref b), .val (.ref b)] [(.int (0 : Int32))]))
    exact own_iret X8 hx hlk hret (Or.inr (Or.inl rfl)) rfl (hb hby d13_55) (by decide) (by decide) ⟨rfl, eh8, rfl⟩
theorem d12_0 : decode prog_10_method_2_code 0 = .ok (.aload_n 0, 1) := by decide +kernel
theorem d12_1 : decode prog_10_method_2_code 1 = .ok (.getfield 7, 3) := by decide +kernel
theorem d12_4 : decode prog_10_method_2_code 4 = .ok (.aload_n 1, 1) := by decide +kernel
theorem d12_5 : decode prog_10_method_2_code 5 = .ok (.if_acmp .ne 18, 3) := by decide +kernel
theorem d12_8 : decode prog_10_method_2_code 8 = .ok (.aload_n 0, 1) := by decide +kernel
theorem d12_9 : decode prog_10_method_2_code 9 = .ok (.getfield 13, 3) := by decide +kernel
theorem d12_12 : decode prog_10_method_2_code 12 = .ok (.aload_n 2, 1) := by decide +kernel
theorem d12_13 : decode prog_10_method_2_code 13 = .ok (.invokevirtual 21, 3) := by decide +kernel
theorem d12_16 : decode prog_10_method_2_code 16 = .ok (.ifCond .eq 7, 3) := by decide +kernel
theorem d12_19 : decode prog_10_method_2_code 19 = .ok (.iconst 1, 1) := by decide +kernel
theorem d12_20 : decode prog_10_method_2_code 20 = .ok (.goto 4, 3) := by decide +kernel
theorem d12_23 : decode prog_10_method_2_code 23 = .ok (.iconst 0, 1) := by decide +kernel
theorem d12_24 : decode prog_10_method_2_code 24 = .ok (.ireturn, 1) := by decide +kernel
set_option maxRecDepth 65536 in
set_option maxHeartbeats 40000000 in
theorem own_is_con (l : Launch) (Z : State) (a0 : Array Value) (hw : ∀ d ∈ tables_1, d.before a0 Z = true) (a kt tt ke te : Addr) (zc : Int32) (ul vl : List Int32) (h0 : Heap) (o_kind0 : Fld Z h0 a "com/example/secure_model_views/securemodelviews/PolicyTokens$Token" "kind" "Lcom/example/secure_model_views/securemodelviews/PolicyTokens$Kind;" (.ref kt)) (o_text0 : Fld Z h0 a "com/example/secure_model_views/securemodelviews/PolicyTokens$Token" "text" "Ljava/lang/String;" (.ref tt)) (hA : own_Str Z h0 tt ul) (hB : own_Str Z h0 te vl) (cs_S0 : Sta Z h0 "java/lang/String" "COMPACT_STRINGS" "Z" (.int zc)) (hzc : ¬ zc = 0) (hab : tt ≠ te) (ws : List Jvm.Cond) :
    own_Con l Z (⟨"com/example/secure_model_views/securemodelviews/PolicyTokens$Token", "is", "(Lcom/example/secure_model_views/securemodelviews/PolicyTokens$Kind;Ljava/lang/String;)Z"⟩ : MethodName) prog_10_method_2_code 3 (some .boolean) ({ frames := 2, cells := 0, slots := 0, locals := 50 } : Room) #[(.ref a), (.ref ke), (.ref te)] h0 (own_PQ h0 (.int (if kt = ke ∧ ul = vl then (1 : Int32) else 0))) ws := by
  refine own_con (F := fun m => (mkF m 0 #[.val (.ref a), .val (.ref ke), .val (.ref te)] [])) (own_pn (by first | (simp [plainName, overriddenIn]; done) | decide +kernel)) (fun m => by first | (simp [entryFrame, mkF, argsToLocals, Value.category]; done) | rfl) ?_
  intro p e s m below meth c T X hx hby hml hZ hown hnm hret hlk eT
  show own_Go p e below (own_Out s (own_PQ h0 (.int (if kt = ke ∧ ul = vl then (1 : Int32) else 0))) ({ frames := 2, cells := 0, slots := 0, locals := 50 } : Room).cells ({ frames := 2, cells := 0, slots := 0, locals := 50 } : Room).slots) (T.setTop (mkF m 0 #[.val (.ref a), .val (.ref ke), .val (.ref te)] []))
  refine own_go (fun _ => XS.aloadN X.here hx rfl (hb hby d12_0) rfl rfl) ?_
  show own_Go p e below _ (T.setTop (mkF m 1 #[.val (.ref a), .val (.ref ke), .val (.ref te)] [(.ref a)]))
  obtain ⟨T1, X1, e1, st1⟩ := getF X hx hZ hown (host := "") (Or.inl (hw _ (List.mem_of_getElem? (i := 55) rfl))) Via.refl eT o_kind0 (g := (mkF m 1 #[.val (.ref a), .val (.ref ke), .val (.ref te)] [(.ref a)])) rfl rfl (hb hby d12_1)
  refine own_go st1 ?_
  show own_Go p e below _ (T1.setTop (mkF m 4 #[.val (.ref a), .val (.ref ke), .val (.ref te)] [(.ref kt)]))
  refine own_go (fun _ => XS.aloadN X1.here hx rfl (hb hby d12_4) rfl rfl) ?_
  show own_Go p e below _ (T1.setTop (mkF m 5 #[.val (.ref a), .val (.ref ke), .val (.ref te)] [(.ref ke), (.ref kt)]))
  by_cases ck : kt = ke
  · skip
    refine own_go (fun _ => XT.acmpNo X1.here hx rfl (hb hby d12_5) rfl rfl rfl (by simp [XT.acmp, ck])) ?_
    show own_Go p e below _ (T1.setTop (mkF m 8 #[.val (.ref a), .val (.ref ke), .val (.ref te)] []))
    refine own_go (fun _ => XS.aloadN X1.here hx rfl (hb hby d12_8) rfl rfl) ?_
    show own_Go p e below _ (T1.setTop (mkF m 9 #[.val (.ref a), .val (.ref ke), .val (.ref te)] [(.ref a)]))
    obtain ⟨T2, X2, e2, st2⟩ := getF X1 hx hZ hown (host := "") (Or.inl (hw _ (List.mem_of_getElem? (i := 57) rfl))) Via.refl e1 o_text0 (g := (mkF m 9 #[.val (.ref a), .val (.ref ke), .val (.ref te)] [(.ref a)])) rfl rfl (hb hby d12_9)
    refine own_go st2 ?_
    show own_Go p e below _ (T2.setTop (mkF m 12 #[.val (.ref a), .val (.ref ke), .val (.ref te)] [(.ref tt)]))
    refine own_go (fun _ => XS.aloadN X2.here hx rfl (hb hby d12_12) rfl rfl) ?_
    show own_Go p e below _ (T2.setTop (mkF m 13 #[.val (.ref a), .val (.ref ke), .val (.ref te)] [(.ref te), (.ref tt)]))
    obtain ⟨_, T3, L3, X3, ⟨rfl, eh3, rfl⟩, st3⟩ := own_callV X2 hx hZ hown (argsL := [(.ref te)]) (rest := []) (own_eqS_con l Z a0 hw tt te zc ul vl h0 hA hB cs_S0 hzc hab []) e2 hA.1 (hw _ (List.mem_of_getElem? (i := 66) rfl)) (hw _ (List.mem_of_getElem? (i := 67) rfl)) (hw _ (List.mem_of_getElem? (i := 69) rfl)) (hw _ (List.mem_of_getElem? (i := 68) rfl)) (hw _ (List.mem_of_getElem? (i := 9) rfl)) (hw _ (List.mem_of_getElem? (i := 70) rfl)) (notFace_of_selects (args := #[]) (mvT hZ (hw _ (List.mem_of_getElem? (i := 69) rfl)))) (by decide) (by decide +kernel : parseMethodDescriptor "(Ljava/lang/Object;)Z" = some ⟨[(.object "java/lang/Object")], some .boolean⟩) rfl (g := (mkF m 13 #[.val (.ref a), .val (.ref ke), .val (.ref te)] [(.ref te), (.ref tt)])) rfl (by rw [hml]; rfl) rfl 0 (by show 2 * 0 + _ ≤ _; exact Nat.le_of_eq rfl) (hb hby d12_13) (by decide) (by decide) (by decide) (by decide)
    rw [List.append_nil] at X3
    refine own_go st3 ?_
    show own_Go p e below _ (T3.setTop (mkF m 16 #[.val (.ref a), .val (.ref ke), .val (.ref te)] [(.int (if ul = vl then (1 : Int32) else 0))]))
    show own_Go p e below _ (T3.setTop (mkF m 16 #[.val (.ref a), .val (.ref ke), .val (.ref te)] [(.int (if ul = vl then (1 : Int32) else 0))]))
    by_cases cu : ul = vl
    · skip
      simp only [if_pos cu, ck, cu, true_and, and_true, if_true, and_false, if_false]
      show own_Go p e below _ (T3.setTop (mkF m 16 #[.val (.ref a), .val (.ref ke), .val (.ref te)] [(.int (1 : Int32))]))
      refine own_go (fun _ => XS.ifNo X3.here hx rfl (hb hby d12_16) rfl (XT.i0_eq_f (by decide))) ?_
      show own_Go p e below _ (T3.setTop (mkF m 19 #[.val (.ref a), .val (.ref ke), .val (.ref te)] []))
      refine own_go (fun _ => XS.iconst X3.here hx rfl (hb hby d12_19)) ?_
      show own_Go p e below _ (T3.setTop (mkF m 20 #[.val (.ref a), .val (.ref ke), .val (.ref te)] [(.int (1 : Int32))]))
      refine own_go (fun _ => XS.goto X3.here hx rfl (pc0 := 20) (pc' := 24) rfl (hb hby d12_20) (by decide) (by decide)) ?_
      show own_Go p e below _ (T3.setTop (mkF m 24 #[.val (.ref a), .val (.ref ke), .val (.ref te)] [(.int (1 : Int32))]))
      exact own_iret X3 hx hlk hret (Or.inr (Or.inl rfl)) rfl (hb hby d12_24) (by decide) (by decide) ⟨rfl, eh3, rfl⟩
    · skip
      simp only [if_neg cu, ck, cu, true_and, and_true, if_true, and_false, if_false]
      show own_Go p e below _ (T3.setTop (mkF m 16 #[.val (.ref a), .val (.ref ke), .val (.ref te)] [(.int (0 : Int32))]))
      refine own_go (fun _ => XS.ifYes X3.here hx rfl (pc0 := 16) (pc' := 23) rfl (hb hby d12_16) rfl (XT.i0_eq_t (by decide)) (by decide) (by decide)) ?_
      show own_Go p e below _ (T3.setTop (mkF m 23 #[.val (.ref a), .val (.ref ke), .val (.ref te)] []))
      refine own_go (fun _ => XS.iconst X3.here hx rfl (hb hby d12_23)) ?_
      show own_Go p e below _ (T3.setTop (mkF m 24 #[.val (.ref a), .val (.ref ke), .val (.ref te)] [(.int (0 : Int32))]))
      exact own_iret X3 hx hlk hret (Or.inr (Or.inl rfl)) rfl (hb hby d12_24) (by decide) (by decide) ⟨rfl, eh3, rfl⟩
  · skip
    refine own_go (fun _ => XT.acmpYes X1.here hx rfl (pc0 := 5) (pc' := 23) rfl (hb hby d12_5) rfl rfl rfl (by simp [XT.acmp, ck]) (by decide) (by decide)) ?_
    show own_Go p e below _ (T1.setTop (mkF m 23 #[.val (.ref a), .val (.ref ke), .val (.ref te)] []))
    refine own_go (fun _ => XS.iconst X1.here hx rfl (hb hby d12_23)) ?_
    show own_Go p e below _ (T1.setTop (mkF m 24 #[.val (.ref a), .val (.ref ke), .val (.ref te)] [(.int (0 : Int32))]))
    exact own_iret X1 hx hlk hret (Or.inr (Or.inl rfl)) rfl (hb hby d12_24) (by decide) (by decide) ⟨by rw [if_neg (fun q => ck q.1)], e1, rfl⟩
theorem own_Str.lt {Z : State} {h : Heap} {r : Addr} {us : List Int32} (S : own_Str Z h r us) : r < h.size := S.1.lt
theorem own_Str.ext {Z : State} {h h' : Heap} {r : Addr} {us : List Int32} (S : own_Str Z h r us) (E : Ext h h') : own_Str Z h' r us := by
  obtain ⟨e1, b, f1, f2, f3⟩ := S; exact ⟨e1.ext E, b, f1.ext E, f2.ext E, f3.ext E⟩
theorem own_Str_keep0 {Z : State} {h h' : Heap} {r : Addr} {us : List Int32} (S : own_Str Z h r us) (K : Keep h h' []) : own_Str Z h' r us := by
  obtain ⟨e1, b, f1, f2, f3⟩ := S; exact ⟨e1.keep K, b, f1.keep K (fun q => nomatch q), f2.keep K (fun q => nomatch q), f3.keep K (fun q => nomatch q)⟩
theorem own_Str_keep1 {Z : State} {h h' : Heap} {r t : Addr} {us : List Int32} {a0 : Array Value} {kk : Nat} (S : own_Str Z h r us) (K : Keep h h' [t]) (E : Exa Z h t "com/example/secure_model_views/securemodelviews/PolicyTokens$Token") (wi : (Jvm.Cond.instantiable "com/example/secure_model_views/securemodelviews/PolicyTokens$Token" kk).before a0 Z = true) : own_Str Z h' r us := by
  obtain ⟨e1, b, f1, f2, f3⟩ := S
  have n1 : r ∉ [t] := fun q => ne_exa E e1 (by decide) (List.mem_singleton.mp q).symm
  have n2 : b ∉ [t] := fun q => by
    obtain ⟨cl, A, -⟩ := f3
    exact ne_arr E wi A (List.mem_singleton.mp q).symm
  exact ⟨e1.keep K, b, f1.keep K n1, f2.keep K n1, f3.keep K n2⟩
theorem own_k5 (x : Int32) : 0 ≤ ((x &&& (255 : Int32)) - ((x &&& (255 : Int32)) / (5 : Int32)) * (5 : Int32)).toInt ∧ ((x &&& (255 : Int32)) - ((x &&& (255 : Int32)) / (5 : Int32)) * (5 : Int32)).toInt < 5 := by
  have h1 := c_mask x 255 8 (by decide) (by decide)
  have h2 := (c_idiv (x &&& (255 : Int32)) 5 5 (by decide) (by decide)).1 (by omega)
  have h3 := c_imul ((x &&& (255 : Int32)) / (5 : Int32)) 5
  have h4 := c_isub (x &&& (255 : Int32)) (((x &&& (255 : Int32)) / (5 : Int32)) * (5 : Int32))
  have h5 := rng32 ((x &&& (255 : Int32)) - ((x &&& (255 : Int32)) / (5 : Int32)) * (5 : Int32))
  have h6 := rng32 (((x &&& (255 : Int32)) / (5 : Int32)) * (5 : Int32))
  simp only [Int32.reduceToInt] at h3
  omega
theorem own_c8 (x : Int32) : 0 ≤ (x &&& (255 : Int32)).toUInt32.toUInt16.toUInt32.toInt32.toInt ∧ (x &&& (255 : Int32)).toUInt32.toUInt16.toUInt32.toInt32.toInt < 256 := by
  have h1 := c_mask x 255 8 (by decide) (by decide)
  have h2 := c_i2c (x &&& (255 : Int32))
  omega
theorem own_l3 (x : Int32) : own_lenOf x = 0 ∨ own_lenOf x = 1 ∨ own_lenOf x = 2 := by
  have h1 := c_mask x 3 2 (by decide) (by decide)
  have a : ∀ n : Int32, n = 0 ∨ n = 1 ∨ n = 2 ↔ 0 ≤ n.toInt ∧ n.toInt < 3 := by
    intro n
    constructor
    · rintro (rfl | rfl | rfl) <;> decide
    · intro q
      rw [← Int32.toInt_inj, ← Int32.toInt_inj, ← Int32.toInt_inj]
      simp only [Int32.reduceToInt]
      omega
  rw [a]
  unfold own_lenOf
  split
  · decide
  · rename_i q
    rw [← Int32.toInt_inj] at q
    simp only [Int32.reduceToInt] at q
    omega
theorem own_b_inj {x y : Int32} (hx : 0 ≤ x.toInt ∧ x.toInt < 256) (hy : 0 ≤ y.toInt ∧ y.toInt < 256) : own_b x = own_b y ↔ x = y := by
  constructor
  · intro q
    have h1 := c_i2b x
    have h2 := c_i2b y
    rw [← Int32.toInt_inj] at q ⊢
    unfold own_b at q
    omega
  · rintro rfl; rfl
theorem own_bs_eq {n c0 c1 m e0 e1 : Int32} (hn : n = 0 ∨ n = 1 ∨ n = 2) (hm : m = 0 ∨ m = 1 ∨ m = 2) (h0 : 0 ≤ c0.toInt ∧ c0.toInt < 256) (h1 : 0 ≤ c1.toInt ∧ c1.toInt < 256) (g0 : 0 ≤ e0.toInt ∧ e0.toInt < 256) (g1 : 0 ≤ e1.toInt ∧ e1.toInt < 256) :
    own_bs n c0 c1 = own_bs m e0 e1 ↔ n = m ∧ (n < 1 ∨ c0 = e0) ∧ (n < 2 ∨ c1 = e1) := by
  rcases hn with rfl | rfl | rfl <;> rcases hm with rfl | rfl | rfl <;> simp [own_bs, own_b_inj h0 g0, own_b_inj h1 g1]
theorem own_kind_inj {w0 w1 w2 w3 w4 : Addr} (h01 : w0 ≠ w1) (h02 : w0 ≠ w2) (h03 : w0 ≠ w3) (h04 : w0 ≠ w4) (h12 : w1 ≠ w2) (h13 : w1 ≠ w3) (h14 : w1 ≠ w4) (h23 : w2 ≠ w3) (h24 : w2 ≠ w4) (h34 : w3 ≠ w4) (k k' : Int32) (hk : 0 ≤ k.toInt ∧ k.toInt < 5) (hk' : 0 ≤ k'.toInt ∧ k'.toInt < 5) : own_kind w0 w1 w2 w3 w4 k = own_kind w0 w1 w2 w3 w4 k' ↔ k = k' := by
  have a : ∀ n : Int32, 0 ≤ n.toInt ∧ n.toInt < 5 → n = 0 ∨ n = 1 ∨ n = 2 ∨ n = 3 ∨ n = 4 := by
    intro n q
    rw [← Int32.toInt_inj, ← Int32.toInt_inj, ← Int32.toInt_inj, ← Int32.toInt_inj, ← Int32.toInt_inj]
    simp only [Int32.reduceToInt]
    omega
  rcases a k hk with rfl | rfl | rfl | rfl | rfl <;> rcases a k' hk' with rfl | rfl | rfl | rfl | rfl <;> simp [own_kind, h01, h02, h03, h04, h12, h13, h14, h23, h24, h34, h01.symm, h02.symm, h03.symm, h04.symm, h12.symm, h13.symm, h14.symm, h23.symm, h24.symm, h34.symm]
def own_Q1 (n0 : Nat) (v : Option Value) (h : Heap) (L : List Loc) : Prop := v = some (.int 1) ∧ Fr n0 L
set_option maxRecDepth 65536 in
set_option maxHeartbeats 40000000 in
theorem own_main_con (l : Launch) (Z : State) (a0 : Array Value) (hw : ∀ d ∈ tables_1, d.before a0 Z = true) (x0 x1 x2 x3 : Int32) (w0 w1 w2 w3 w4 : Addr) (zc : Int32) (h0 : Heap) (k0_S0 : Sta Z h0 "com/example/secure_model_views/securemodelviews/PolicyTokens$Kind" "WORD" "Lcom/example/secure_model_views/securemodelviews/PolicyTokens$Kind;" (.ref w0)) (k1_S0 : Sta Z h0 "com/example/secure_model_views/securemodelviews/PolicyTokens$Kind" "STRING" "Lcom/example/secure_model_views/securemodelviews/PolicyTokens$Kind;" (.ref w1)) (k2_S0 : Sta Z h0 "com/example/secure_model_views/securemodelviews/PolicyTokens$Kind" "INTEGER" "Lcom/example/secure_model_views/securemodelviews/PolicyTokens$Kind;" (.ref w2)) (k3_S0 : Sta Z h0 "com/example/secure_model_views/securemodelviews/PolicyTokens$Kind" "SYMBOL" "Lcom/example/secure_model_views/securemodelviews/PolicyTokens$Kind;" (.ref w3)) (k4_S0 : Sta Z h0 "com/example/secure_model_views/securemodelviews/PolicyTokens$Kind" "END" "Lcom/example/secure_model_views/securemodelviews/PolicyTokens$Kind;" (.ref w4)) (cs_S0 : Sta Z h0 "java/lang/String" "COMPACT_STRINGS" "Z" (.int zc)) (hzc : ¬ zc = 0) (hK : ∀ k k' : Int32, (0 ≤ k.toInt ∧ k.toInt < 5) → (0 ≤ k'.toInt ∧ k'.toInt < 5) → (own_kind w0 w1 w2 w3 w4 k = own_kind w0 w1 w2 w3 w4 k' ↔ k = k')) (ws : List Jvm.Cond) :
    own_ConM l Z x code maxLocals ret room_1 #[(.int x0), (.int x1), (.int x2), (.int x3)] h0 (own_Q1 h0.size) ws := by
  refine own_conM (F := fun m => (mkF m 0 #[.val (.int x0), .val (.int x1), .val (.int x2), .val (.int x3), .unset, .unset, .unset, .unset, .unset, .unset, .unset, .unset, .unset, .unset, .unset, .unset, .unset, .unset, .unset, .unset, .unset, .unset, .unset] [])) (own_pn (by first | (simp [plainName, overriddenIn]; done) | decide +kernel)) (fun m => by first | (simp [entryFrame, mkF, argsToLocals, Value.category, maxLocals]; done) | rfl) ?_
  intro p e s m below meth c T X hx hby hml hZ hown hnm hret hlk eT eh H0
  show own_Go p e below (own_OutM s (own_Q1 h0.size) room_1.cells room_1.slots) (T.setTop (mkF m 0 #[.val (.int x0), .val (.int x1), .val (.int x2), .val (.int x3), .unset, .unset, .unset, .unset, .unset, .unset, .unset, .unset, .unset, .unset, .unset, .unset, .unset, .unset, .unset, .unset, .unset, .unset, .unset] []))
  have hEL : EW Z a0 own_EL := EW.cons (hw _ (List.mem_of_getElem? (i := 76) rfl)) (by simp) (fun _ hp => nomatch hp)
  have wS : ∀ d ∈ Bundle.stringAtoms, d.before a0 Z = true := own_wS hw
  have hC0 : CHr Z own_EL s.vm s.heap s.vm h0 := by rw [eh]; exact CHr.refl H0
  have hS0 : s.Since s.vm h0.size := own_since0
  have N0 := Fr.nil h0.size
  have K0 := Keep.refl h0 []
  refine own_go (fun _ => XS.iloadN X.here hx rfl (hb hby at_0) rfl) ?_
  refine own_go (fun _ => XS.sipush X.here hx rfl (hb hby at_1)) ?_
  refine own_go (fun _ => XS.iand X.here hx rfl (hb hby at_4) rfl) ?_
  refine own_go (fun _ => XS.iconst X.here hx rfl (hb hby at_5)) ?_
  show own_Go p e below _ (T.setTop (mkF m 6 #[.val (.int x0), .val (.int x1), .val (.int x2), .val (.int x3), .unset, .unset, .unset, .unset, .unset, .unset, .unset, .unset, .unset, .unset, .unset, .unset, .unset, .unset, .unset, .unset, .unset, .unset, .unset] [(.int (5 : Int32)), (.int (x0 &&& (255 : Int32)))]))
  refine own_go (fun _ => XS.irem X.here hx rfl (hb hby at_6) rfl (by decide)) ?_
  refine own_go (fun _ => XS.istore X.here hx rfl (hb hby at_7) rfl (l' := #[.val (.int x0), .val (.int x1), .val (.int x2), .val (.int x3), .val (.int ((x0 &&& (255 : Int32)) - ((x0 &&& (255 : Int32)) / (5 : Int32)) * (5 : Int32))), .unset, .unset, .unset, .unset, .unset, .unset, .unset, .unset, .unset, .unset, .unset, .unset, .unset, .unset, .unset, .unset, .unset, .unset]) rfl) ?_
  obtain ⟨k1, h_k1⟩ : ∃ z : Int32, z = ((x0 &&& (255 : Int32)) - ((x0 &&& (255 : Int32)) / (5 : Int32)) * (5 : Int32)) := ⟨_, rfl⟩
  have r_k1 := own_k5 (x0)
  rw [← h_k1] at r_k1
  show own_Go p e below _ (T.setTop (mkF m 9 #[.val (.int x0), .val (.int x1), .val (.int x2), .val (.int x3), .val (.int ((x0 &&& (255 : Int32)) - ((x0 &&& (255 : Int32)) / (5 : Int32)) * (5 : Int32))), .unset, .unset, .unset, .unset, .unset, .unset, .unset, .unset, .unset, .unset, .unset, .unset, .unset, .unset, .unset, .unset, .unset, .unset] []))
  rw [← h_k1]
  show own_Go p e below _ (T.setTop (mkF m 9 #[.val (.int x0), .val (.int x1), .val (.int x2), .val (.int x3), .val (.int k1), .unset, .unset, .unset, .unset, .unset, .unset, .unset, .unset, .unset, .unset, .unset, .unset, .unset, .unset, .unset, .unset, .unset, .unset] []))
  refine own_go (fun _ => XS.iloadN X.here hx rfl (hb hby at_9) rfl) ?_
  refine own_go (fun _ => XS.bipush X.here hx rfl (hb hby at_10)) ?_
  refine own_go (fun _ => XT.iushr X.here hx rfl (hb hby at_12) rfl) ?_
  refine own_go (fun _ => XS.sipush X.here hx rfl (hb hby at_13)) ?_
  show own_Go p e below _ (T.setTop (mkF m 16 #[.val (.int x0), .val (.int x1), .val (.int x2), .val (.int x3), .val (.int k1), .unset, .unset, .unset, .unset, .unset, .unset, .unset, .unset, .unset, .unset, .unset, .unset, .unset, .unset, .unset, .unset, .unset, .unset] [(.int (255 : Int32)), (.int (XT.ushr x0 (8 : Int32)))]))
  refine own_go (fun _ => XS.iand X.here hx rfl (hb hby at_16) rfl) ?_
  refine own_go (fun _ => XS.iconst X.here hx rfl (hb hby at_17)) ?_
  refine own_go (fun _ => XS.irem X.here hx rfl (hb hby at_18) rfl (by decide)) ?_
  refine own_go (fun _ => XS.istore X.here hx rfl (hb hby at_19) rfl (l' := #[.val (.int x0), .val (.int x1), .val (.int x2), .val (.int x3), .val (.int k1), .val (.int (((XT.ushr x0 (8 : Int32)) &&& (255 : Int32)) - (((XT.ushr x0 (8 : Int32)) &&& (255 : Int32)) / (5 : Int32)) * (5 : Int32))), .unset, .unset, .unset, .unset, .unset, .unset, .unset, .unset, .unset, .unset, .unset, .unset, .unset, .unset, .unset, .unset, .unset]) rfl) ?_
  show own_Go p e below _ (T.setTop (mkF m 21 #[.val (.int x0), .val (.int x1), .val (.int x2), .val (.int x3), .val (.int k1), .val (.int (((XT.ushr x0 (8 : Int32)) &&& (255 : Int32)) - (((XT.ushr x0 (8 : Int32)) &&& (255 : Int32)) / (5 : Int32)) * (5 : Int32))), .unset, .unset, .unset, .unset, .unset, .unset, .unset, .unset, .unset, .unset, .unset, .unset, .unset, .unset, .unset, .unset, .unset] []))
  obtain ⟨k2, h_k2⟩ : ∃ z : Int32, z = (((XT.ushr x0 (8 : Int32)) &&& (255 : Int32)) - (((XT.ushr x0 (8 : Int32)) &&& (255 : Int32)) / (5 : Int32)) * (5 : Int32)) := ⟨_, rfl⟩
  have r_k2 := own_k5 ((XT.ushr x0 (8 : Int32)))
  rw [← h_k2] at r_k2
  show own_Go p e below _ (T.setTop (mkF m 21 #[.val (.int x0), .val (.int x1), .val (.int x2), .val (.int x3), .val (.int k1), .val (.int (((XT.ushr x0 (8 : Int32)) &&& (255 : Int32)) - (((XT.ushr x0 (8 : Int32)) &&& (255 : Int32)) / (5 : Int32)) * (5 : Int32))), .unset, .unset, .unset, .unset, .unset, .unset, .unset, .unset, .unset, .unset, .unset, .unset, .unset, .unset, .unset, .unset, .unset] []))
  rw [← h_k2]
  show own_Go p e below _ (T.setTop (mkF m 21 #[.val (.int x0), .val (.int x1), .val (.int x2), .val (.int x3), .val (.int k1), .val (.int k2), .unset, .unset, .unset, .unset, .unset, .unset, .unset, .unset, .unset, .unset, .unset, .unset, .unset, .unset, .unset, .unset, .unset] []))
  refine own_go (fun _ => XS.iloadN X.here hx rfl (hb hby at_21) rfl) ?_
  refine own_go (fun _ => XS.bipush X.here hx rfl (hb hby at_22)) ?_
  refine own_go (fun _ => XT.iushr X.here hx rfl (hb hby at_24) rfl) ?_
  refine own_go (fun _ => XS.iconst X.here hx rfl (hb hby at_25)) ?_
  show own_Go p e below _ (T.setTop (mkF m 26 #[.val (.int x0), .val (.int x1), .val (.int x2), .val (.int x3), .val (.int k1), .val (.int k2), .unset, .unset, .unset, .unset, .unset, .unset, .unset, .unset, .unset, .unset, .unset, .unset, .unset, .unset, .unset, .unset, .unset] [(.int (3 : Int32)), (.int (XT.ushr x0 (16 : Int32)))]))
  refine own_go (fun _ => XS.iand X.here hx rfl (hb hby at_26) rfl) ?_
  refine own_go (fun _ => XS.istore X.here hx rfl (hb hby at_27) rfl (l' := #[.val (.int x0), .val (.int x1), .val (.int x2), .val (.int x3), .val (.int k1), .val (.int k2), .val (.int ((XT.ushr x0 (16 : Int32)) &&& (3 : Int32))), .unset, .unset, .unset, .unset, .unset, .unset, .unset, .unset, .unset, .unset, .unset, .unset, .unset, .unset, .unset, .unset]) rfl) ?_
  obtain ⟨md, h_md⟩ : ∃ z : Int32, z = ((XT.ushr x0 (16 : Int32)) &&& (3 : Int32)) := ⟨_, rfl⟩
  show own_Go p e below _ (T.setTop (mkF m 29 #[.val (.int x0), .val (.int x1), .val (.int x2), .val (.int x3), .val (.int k1), .val (.int k2), .val (.int ((XT.ushr x0 (16 : Int32)) &&& (3 : Int32))), .unset, .unset, .unset, .unset, .unset, .unset, .unset, .unset, .unset, .unset, .unset, .unset, .unset, .unset, .unset, .unset] []))
  rw [← h_md]
  show own_Go p e below _ (T.setTop (mkF m 29 #[.val (.int x0), .val (.int x1), .val (.int x2), .val (.int x3), .val (.int k1), .val (.int k2), .val (.int md), .unset, .unset, .unset, .unset, .unset, .unset, .unset, .unset, .unset, .unset, .unset, .unset, .unset, .unset, .unset, .unset] []))
  refine own_go (fun _ => XS.iloadN X.here hx rfl (hb hby at_29) rfl) ?_
  obtain ⟨T1, X1, e1, st1⟩ := own_callSP X hx hZ hown (argsL := [(.int x1)]) (rest := []) (own_lenOf_con l Z a0 hw x1 h0 []) eT (hw _ (List.mem_of_getElem? (i := 0) rfl)) (hw _ (List.mem_of_getElem? (i := 1) rfl)) (hw _ (List.mem_of_getElem? (i := 2) rfl)) (hw _ (List.mem_of_getElem? (i := 3) rfl)) (by decide) (by decide +kernel : parseMethodDescriptor "(I)I" = some ⟨[.int], some .int⟩) rfl (g := (mkF m 30 #[.val (.int x0), .val (.int x1), .val (.int x2), .val (.int x3), .val (.int k1), .val (.int k2), .val (.int md), .unset, .unset, .unset, .unset, .unset, .unset, .unset, .unset, .unset, .unset, .unset, .unset, .unset, .unset, .unset, .unset] [(.int x1)])) rfl (by rw [hml]; rfl) rfl 0 (by show 2 * 0 + _ ≤ _; exact Nat.le_of_eq rfl) (hb hby at_30) (by decide) (by decide) rfl rfl (by decide) (by decide)
  refine own_go st1 ?_
  refine own_go (fun _ => XS.istore X1.here hx rfl (hb hby at_33) rfl (l' := #[.val (.int x0), .val (.int x1), .val (.int x2), .val (.int x3), .val (.int k1), .val (.int k2), .val (.int md), .val (.int (own_lenOf x1)), .unset, .unset, .unset, .unset, .unset, .unset, .unset, .unset, .unset, .unset, .unset, .unset, .unset, .unset, .unset]) rfl) ?_
  obtain ⟨tL, h_tL⟩ : ∃ z : Int32, z = (own_lenOf x1) := ⟨_, rfl⟩
  have r_tL := own_l3 x1
  rw [← h_tL] at r_tL
  show own_Go p e below _ (T1.setTop (mkF m 35 #[.val (.int x0), .val (.int x1), .val (.int x2), .val (.int x3), .val (.int k1), .val (.int k2), .val (.int md), .val (.int (own_lenOf x1)), .unset, .unset, .unset, .unset, .unset, .unset, .unset, .unset, .unset, .unset, .unset, .unset, .unset, .unset, .unset] []))
  rw [← h_tL]
  show own_Go p e below _ (T1.setTop (mkF m 35 #[.val (.int x0), .val (.int x1), .val (.int x2), .val (.int x3), .val (.int k1), .val (.int k2), .val (.int md), .val (.int tL), .unset, .unset, .unset, .unset, .unset, .unset, .unset, .unset, .unset, .unset, .unset, .unset, .unset, .unset, .unset] []))
  refine own_go (fun _ => XS.iloadN X1.here hx rfl (hb hby at_35) rfl) ?_
  refine own_go (fun _ => XS.iconst X1.here hx rfl (hb hby at_36)) ?_
  refine own_go (fun _ => XT.iushr X1.here hx rfl (hb hby at_37) rfl) ?_
  refine own_go (fun _ => XS.sipush X1.here hx rfl (hb hby at_38)) ?_
  show own_Go p e below _ (T1.setTop (mkF m 41 #[.val (.int x0), .val (.int x1), .val (.int x2), .val (.int x3), .val (.int k1), .val (.int k2), .val (.int md), .val (.int tL), .unset, .unset, .unset, .unset, .unset, .unset, .unset, .unset, .unset, .unset, .unset, .unset, .unset, .unset, .unset] [(.int (255 : Int32)), (.int (XT.ushr x1 (2 : Int32)))]))
  refine own_go (fun _ => XS.iand X1.here hx rfl (hb hby at_41) rfl) ?_
  refine own_go (fun _ => XT.i2c X1.here hx rfl (hb hby at_42) rfl) ?_
  refine own_go (fun _ => XS.istore X1.here hx rfl (hb hby at_43) rfl (l' := #[.val (.int x0), .val (.int x1), .val (.int x2), .val (.int x3), .val (.int k1), .val (.int k2), .val (.int md), .val (.int tL), .val (.int (((XT.ushr x1 (2 : Int32)) &&& (255 : Int32)).toUInt32.toUInt16.toUInt32.toInt32)), .unset, .unset, .unset, .unset, .unset, .unset, .unset, .unset, .unset, .unset, .unset, .unset, .unset, .unset]) rfl) ?_
  obtain ⟨t0, h_t0⟩ : ∃ z : Int32, z = (((XT.ushr x1 (2 : Int32)) &&& (255 : Int32)).toUInt32.toUInt16.toUInt32.toInt32) := ⟨_, rfl⟩
  have r_t0 := own_c8 ((XT.ushr x1 (2 : Int32)))
  rw [← h_t0] at r_t0
  show own_Go p e below _ (T1.setTop (mkF m 45 #[.val (.int x0), .val (.int x1), .val (.int x2), .val (.int x3), .val (.int k1), .val (.int k2), .val (.int md), .val (.int tL), .val (.int (((XT.ushr x1 (2 : Int32)) &&& (255 : Int32)).toUInt32.toUInt16.toUInt32.toInt32)), .unset, .unset, .unset, .unset, .unset, .unset, .unset, .unset, .unset, .unset, .unset, .unset, .unset, .unset] []))
  rw [← h_t0]
  show own_Go p e below _ (T1.setTop (mkF m 45 #[.val (.int x0), .val (.int x1), .val (.int x2), .val (.int x3), .val (.int k1), .val (.int k2), .val (.int md), .val (.int tL), .val (.int t0), .unset, .unset, .unset, .unset, .unset, .unset, .unset, .unset, .unset, .unset, .unset, .unset, .unset, .unset] []))
  refine own_go (fun _ => XS.iloadN X1.here hx rfl (hb hby at_45) rfl) ?_
  refine own_go (fun _ => XS.bipush X1.here hx rfl (hb hby at_46)) ?_
  refine own_go (fun _ => XT.iushr X1.here hx rfl (hb hby at_48) rfl) ?_
  refine own_go (fun _ => XS.sipush X1.here hx rfl (hb hby at_49)) ?_
  show own_Go p e below _ (T1.setTop (mkF m 52 #[.val (.int x0), .val (.int x1), .val (.int x2), .val (.int x3), .val (.int k1), .val (.int k2), .val (.int md), .val (.int tL), .val (.int t0), .unset, .unset, .unset, .unset, .unset, .unset, .unset, .unset, .unset, .unset, .unset, .unset, .unset, .unset] [(.int (255 : Int32)), (.int (XT.ushr x1 (10 : Int32)))]))
  refine own_go (fun _ => XS.iand X1.here hx rfl (hb hby at_52) rfl) ?_
  refine own_go (fun _ => XT.i2c X1.here hx rfl (hb hby at_53) rfl) ?_
  refine own_go (fun _ => XS.istore X1.here hx rfl (hb hby at_54) rfl (l' := #[.val (.int x0), .val (.int x1), .val (.int x2), .val (.int x3), .val (.int k1), .val (.int k2), .val (.int md), .val (.int tL), .val (.int t0), .val (.int (((XT.ushr x1 (10 : Int32)) &&& (255 : Int32)).toUInt32.toUInt16.toUInt32.toInt32)), .unset, .unset, .unset, .unset, .unset, .unset, .unset, .unset, .unset, .unset, .unset, .unset, .unset]) rfl) ?_
  obtain ⟨t1, h_t1⟩ : ∃ z : Int32, z = (((XT.ushr x1 (10 : Int32)) &&& (255 : Int32)).toUInt32.toUInt16.toUInt32.toInt32) := ⟨_, rfl⟩
  have r_t1 := own_c8 ((XT.ushr x1 (10 : Int32)))
  rw [← h_t1] at r_t1
  show own_Go p e below _ (T1.setTop (mkF m 56 #[.val (.int x0), .val (.int x1), .val (.int x2), .val (.int x3), .val (.int k1), .val (.int k2), .val (.int md), .val (.int tL), .val (.int t0), .val (.int (((XT.ushr x1 (10 : Int32)) &&& (255 : Int32)).toUInt32.toUInt16.toUInt32.toInt32)), .unset, .unset, .unset, .unset, .unset, .unset, .unset, .unset, .unset, .unset, .unset, .unset, .unset] []))
  rw [← h_t1]
  show own_Go p e below _ (T1.setTop (mkF m 56 #[.val (.int x0), .val (.int x1), .val (.int x2), .val (.int x3), .val (.int k1), .val (.int k2), .val (.int md), .val (.int tL), .val (.int t0), .val (.int t1), .unset, .unset, .unset, .unset, .unset, .unset, .unset, .unset, .unset, .unset, .unset, .unset, .unset] []))
  refine own_go (fun _ => XS.iloadN X1.here hx rfl (hb hby at_56) rfl) ?_
  obtain ⟨T2, X2, e2, st2⟩ := own_callSP X1 hx hZ hown (argsL := [(.int x2)]) (rest := []) (own_lenOf_con l Z a0 hw x2 h0 []) e1 (hw _ (List.mem_of_getElem? (i := 0) rfl)) (hw _ (List.mem_of_getElem? (i := 1) rfl)) (hw _ (List.mem_of_getElem? (i := 2) rfl)) (hw _ (List.mem_of_getElem? (i := 3) rfl)) (by decide) (by decide +kernel : parseMethodDescriptor "(I)I" = some ⟨[.int], some .int⟩) rfl (g := (mkF m 57 #[.val (.int x0), .val (.int x1), .val (.int x2), .val (.int x3), .val (.int k1), .val (.int k2), .val (.int md), .val (.int tL), .val (.int t0), .val (.int t1), .unset, .unset, .unset, .unset, .unset, .unset, .unset, .unset, .unset, .unset, .unset, .unset, .unset] [(.int x2)])) rfl (by rw [hml]; rfl) rfl 0 (by show 2 * 0 + _ ≤ _; exact Nat.le_of_eq rfl) (hb hby at_57) (by decide) (by decide) rfl rfl (by decide) (by decide)
  refine own_go st2 ?_
  refine own_go (fun _ => XS.istore X2.here hx rfl (hb hby at_60) rfl (l' := #[.val (.int x0), .val (.int x1), .val (.int x2), .val (.int x3), .val (.int k1), .val (.int k2), .val (.int md), .val (.int tL), .val (.int t0), .val (.int t1), .val (.int (own_lenOf x2)), .unset, .unset, .unset, .unset, .unset, .unset, .unset, .unset, .unset, .unset, .unset, .unset]) rfl) ?_
  obtain ⟨dL, h_dL⟩ : ∃ z : Int32, z = (own_lenOf x2) := ⟨_, rfl⟩
  have r_dL := own_l3 x2
  rw [← h_dL] at r_dL
  show own_Go p e below _ (T2.setTop (mkF m 62 #[.val (.int x0), .val (.int x1), .val (.int x2), .val (.int x3), .val (.int k1), .val (.int k2), .val (.int md), .val (.int tL), .val (.int t0), .val (.int t1), .val (.int (own_lenOf x2)), .unset, .unset, .unset, .unset, .unset, .unset, .unset, .unset, .unset, .unset, .unset, .unset] []))
  rw [← h_dL]
  show own_Go p e below _ (T2.setTop (mkF m 62 #[.val (.int x0), .val (.int x1), .val (.int x2), .val (.int x3), .val (.int k1), .val (.int k2), .val (.int md), .val (.int tL), .val (.int t0), .val (.int t1), .val (.int dL), .unset, .unset, .unset, .unset, .unset, .unset, .unset, .unset, .unset, .unset, .unset, .unset] []))
  refine own_go (fun _ => XS.iloadN X2.here hx rfl (hb hby at_62) rfl) ?_
  refine own_go (fun _ => XS.iconst X2.here hx rfl (hb hby at_63)) ?_
  refine own_go (fun _ => XT.iushr X2.here hx rfl (hb hby at_64) rfl) ?_
  refine own_go (fun _ => XS.sipush X2.here hx rfl (hb hby at_65)) ?_
  show own_Go p e below _ (T2.setTop (mkF m 68 #[.val (.int x0), .val (.int x1), .val (.int x2), .val (.int x3), .val (.int k1), .val (.int k2), .val (.int md), .val (.int tL), .val (.int t0), .val (.int t1), .val (.int dL), .unset, .unset, .unset, .unset, .unset, .unset, .unset, .unset, .unset, .unset, .unset, .unset] [(.int (255 : Int32)), (.int (XT.ushr x2 (2 : Int32)))]))
  refine own_go (fun _ => XS.iand X2.here hx rfl (hb hby at_68) rfl) ?_
  refine own_go (fun _ => XT.i2c X2.here hx rfl (hb hby at_69) rfl) ?_
  refine own_go (fun _ => XS.istore X2.here hx rfl (hb hby at_70) rfl (l' := #[.val (.int x0), .val (.int x1), .val (.int x2), .val (.int x3), .val (.int k1), .val (.int k2), .val (.int md), .val (.int tL), .val (.int t0), .val (.int t1), .val (.int dL), .val (.int (((XT.ushr x2 (2 : Int32)) &&& (255 : Int32)).toUInt32.toUInt16.toUInt32.toInt32)), .unset, .unset, .unset, .unset, .unset, .unset, .unset, .unset, .unset, .unset, .unset]) rfl) ?_
  obtain ⟨d0, h_d0⟩ : ∃ z : Int32, z = (((XT.ushr x2 (2 : Int32)) &&& (255 : Int32)).toUInt32.toUInt16.toUInt32.toInt32) := ⟨_, rfl⟩
  have r_d0 := own_c8 ((XT.ushr x2 (2 : Int32)))
  rw [← h_d0] at r_d0
  show own_Go p e below _ (T2.setTop (mkF m 72 #[.val (.int x0), .val (.int x1), .val (.int x2), .val (.int x3), .val (.int k1), .val (.int k2), .val (.int md), .val (.int tL), .val (.int t0), .val (.int t1), .val (.int dL), .val (.int (((XT.ushr x2 (2 : Int32)) &&& (255 : Int32)).toUInt32.toUInt16.toUInt32.toInt32)), .unset, .unset, .unset, .unset, .unset, .unset, .unset, .unset, .unset, .unset, .unset] []))
  rw [← h_d0]
  show own_Go p e below _ (T2.setTop (mkF m 72 #[.val (.int x0), .val (.int x1), .val (.int x2), .val (.int x3), .val (.int k1), .val (.int k2), .val (.int md), .val (.int tL), .val (.int t0), .val (.int t1), .val (.int dL), .val (.int d0), .unset, .unset, .unset, .unset, .unset, .unset, .unset, .unset, .unset, .unset, .unset] []))
  refine own_go (fun _ => XS.iloadN X2.here hx rfl (hb hby at_72) rfl) ?_
  refine own_go (fun _ => XS.bipush X2.here hx rfl (hb hby at_73)) ?_
  refine own_go (fun _ => XT.iushr X2.here hx rfl (hb hby at_75) rfl) ?_
  refine own_go (fun _ => XS.sipush X2.here hx rfl (hb hby at_76)) ?_
  show own_Go p e below _ (T2.setTop (mkF m 79 #[.val (.int x0), .val (.int x1), .val (.int x2), .val (.int x3), .val (.int k1), .val (.int k2), .val (.int md), .val (.int tL), .val (.int t0), .val (.int t1), .val (.int dL), .val (.int d0), .unset, .unset, .unset, .unset, .unset, .unset, .unset, .unset, .unset, .unset, .unset] [(.int (255 : Int32)), (.int (XT.ushr x2 (10 : Int32)))]))
  refine own_go (fun _ => XS.iand X2.here hx rfl (hb hby at_79) rfl) ?_
  refine own_go (fun _ => XT.i2c X2.here hx rfl (hb hby at_80) rfl) ?_
  refine own_go (fun _ => XS.istore X2.here hx rfl (hb hby at_81) rfl (l' := #[.val (.int x0), .val (.int x1), .val (.int x2), .val (.int x3), .val (.int k1), .val (.int k2), .val (.int md), .val (.int tL), .val (.int t0), .val (.int t1), .val (.int dL), .val (.int d0), .val (.int (((XT.ushr x2 (10 : Int32)) &&& (255 : Int32)).toUInt32.toUInt16.toUInt32.toInt32)), .unset, .unset, .unset, .unset, .unset, .unset, .unset, .unset, .unset, .unset]) rfl) ?_
  obtain ⟨d1, h_d1⟩ : ∃ z : Int32, z = (((XT.ushr x2 (10 : Int32)) &&& (255 : Int32)).toUInt32.toUInt16.toUInt32.toInt32) := ⟨_, rfl⟩
  have r_d1 := own_c8 ((XT.ushr x2 (10 : Int32)))
  rw [← h_d1] at r_d1
  show own_Go p e below _ (T2.setTop (mkF m 83 #[.val (.int x0), .val (.int x1), .val (.int x2), .val (.int x3), .val (.int k1), .val (.int k2), .val (.int md), .val (.int tL), .val (.int t0), .val (.int t1), .val (.int dL), .val (.int d0), .val (.int (((XT.ushr x2 (10 : Int32)) &&& (255 : Int32)).toUInt32.toUInt16.toUInt32.toInt32)), .unset, .unset, .unset, .unset, .unset, .unset, .unset, .unset, .unset, .unset] []))
  rw [← h_d1]
  show own_Go p e below _ (T2.setTop (mkF m 83 #[.val (.int x0), .val (.int x1), .val (.int x2), .val (.int x3), .val (.int k1), .val (.int k2), .val (.int md), .val (.int tL), .val (.int t0), .val (.int t1), .val (.int dL), .val (.int d0), .val (.int d1), .unset, .unset, .unset, .unset, .unset, .unset, .unset, .unset, .unset, .unset] []))
  have G157 : ∀ (eL e0 e1 : Int32), (eL = 0 ∨ eL = 1 ∨ eL = 2) → (0 ≤ e0.toInt ∧ e0.toInt < 256) → (0 ≤ e1.toInt ∧ e1.toInt < 256) → own_Go p e below (own_OutM s (own_Q1 h0.size) room_1.cells room_1.slots) (T2.setTop (mkF m 157 #[.val (.int x0), .val (.int x1), .val (.int x2), .val (.int x3), .val (.int k1), .val (.int k2), .val (.int md), .val (.int tL), .val (.int t0), .val (.int t1), .val (.int dL), .val (.int d0), .val (.int d1), .val (.int eL), .val (.int e0), .val (.int e1), .unset, .unset, .unset, .unset, .unset, .unset, .unset] [])) := by
    intro eL e0 e1 r_eL r_e0 r_e1
    show own_Go p e below _ (T2.setTop (mkF m 157 #[.val (.int x0), .val (.int x1), .val (.int x2), .val (.int x3), .val (.int k1), .val (.int k2), .val (.int md), .val (.int tL), .val (.int t0), .val (.int t1), .val (.int dL), .val (.int d0), .val (.int d1), .val (.int eL), .val (.int e0), .val (.int e1), .unset, .unset, .unset, .unset, .unset, .unset, .unset] []))
    refine own_go (fun _ => XS.iload X2.here hx rfl (hb hby at_157) rfl) ?_
    refine own_go (fun _ => XS.iload X2.here hx rfl (hb hby at_159) rfl) ?_
    refine own_go (fun _ => XS.iload X2.here hx rfl (hb hby at_161) rfl) ?_
    obtain ⟨_, T3, L3, X3, ⟨ra3, rfl, Nc3, Kc3, ga3, Sa3⟩, CC3, hS3, hZ3, how3, st3⟩ := own_callSW X2 hx hZ hown (argsL := [(.int tL), (.int t0), (.int t1)]) (rest := []) (own_str_con l Z a0 hw tL t0 t1 zc h0.size h0 r_tL cs_S0 hzc r_t0 r_t1 K0.1 []) e2 hEL hC0.1 hS0 (Nat.le_refl _) (hw _ (List.mem_of_getElem? (i := 4) rfl)) (hw _ (List.mem_of_getElem? (i := 5) rfl)) (hw _ (List.mem_of_getElem? (i := 2) rfl)) (hw _ (List.mem_of_getElem? (i := 6) rfl)) (by decide) (by decide +kernel : parseMethodDescriptor "(ICC)Ljava/lang/String;" = some ⟨[.int, .char, .char], (some (.object "java/lang/String"))⟩) rfl (g := (mkF m 163 #[.val (.int x0), .val (.int x1), .val (.int x2), .val (.int x3), .val (.int k1), .val (.int k2), .val (.int md), .val (.int tL), .val (.int t0), .val (.int t1), .val (.int dL), .val (.int d0), .val (.int d1), .val (.int eL), .val (.int e0), .val (.int e1), .unset, .unset, .unset, .unset, .unset, .unset, .unset] [(.int t1), (.int t0), (.int tL)])) rfl (by rw [hml]; rfl) rfl 0 (by show 2 * 0 + _ ≤ _; exact Nat.le_of_eq rfl) (hb hby at_163) (by decide) (by decide) (by decide) (by decide)
    have hC3 := hC0.trans CC3
    have N3 := Fr.app N0 Nc3
    have k0_3 := own_Sta_keep0 k0_S0 Kc3
    have k1_3 := own_Sta_keep0 k1_S0 Kc3
    have k2_3 := own_Sta_keep0 k2_S0 Kc3
    have k3_3 := own_Sta_keep0 k3_S0 Kc3
    have k4_3 := own_Sta_keep0 k4_S0 Kc3
    have cs_3 := own_Sta_keep0 cs_S0 Kc3
    have K3 := K0.trans Kc3 all0
    have hZ := hZ3
    have hown := how3
    refine own_go st3 ?_
    show own_Go p e below _ (T3.setTop (mkF m 166 #[.val (.int x0), .val (.int x1), .val (.int x2), .val (.int x3), .val (.int k1), .val (.int k2), .val (.int md), .val (.int tL), .val (.int t0), .val (.int t1), .val (.int dL), .val (.int d0), .val (.int d1), .val (.int eL), .val (.int e0), .val (.int e1), .unset, .unset, .unset, .unset, .unset, .unset, .unset] [(.ref ra3)]))
    refine own_go (fun _ => XS.astore X3.here hx rfl (hb hby at_166) rfl rfl (l' := #[.val (.int x0), .val (.int x1), .val (.int x2), .val (.int x3), .val (.int k1), .val (.int k2), .val (.int md), .val (.int tL), .val (.int t0), .val (.int t1), .val (.int dL), .val (.int d0), .val (.int d1), .val (.int eL), .val (.int e0), .val (.int e1), .val (.ref ra3), .unset, .unset, .unset, .unset, .unset, .unset]) rfl) ?_
    refine own_go (fun _ => XS.iload X3.here hx rfl (hb hby at_168) rfl) ?_
    refine own_go (fun _ => XS.iload X3.here hx rfl (hb hby at_170) rfl) ?_
    refine own_go (fun _ => XS.iload X3.here hx rfl (hb hby at_172) rfl) ?_
    show own_Go p e below _ (T3.setTop (mkF m 174 #[.val (.int x0), .val (.int x1), .val (.int x2), .val (.int x3), .val (.int k1), .val (.int k2), .val (.int md), .val (.int tL), .val (.int t0), .val (.int t1), .val (.int dL), .val (.int d0), .val (.int d1), .val (.int eL), .val (.int e0), .val (.int e1), .val (.ref ra3), .unset, .unset, .unset, .unset, .unset, .unset] [(.int e1), (.int e0), (.int eL)]))
    obtain ⟨_, T4, L4, X4, ⟨ra4, rfl, Nc4, Kc4, ga4, Sa4⟩, CC4, hS4, hZ4, how4, st4⟩ := own_callSW X3 hx hZ hown (argsL := [(.int eL), (.int e0), (.int e1)]) (rest := []) (own_str_con l Z a0 hw eL e0 e1 zc h0.size T3.heap r_eL cs_3 hzc r_e0 r_e1 K3.1 []) rfl hEL hC3.1 hS3 (Nat.le_refl _) (hw _ (List.mem_of_getElem? (i := 4) rfl)) (hw _ (List.mem_of_getElem? (i := 5) rfl)) (hw _ (List.mem_of_getElem? (i := 2) rfl)) (hw _ (List.mem_of_getElem? (i := 6) rfl)) (by decide) (by decide +kernel : parseMethodDescriptor "(ICC)Ljava/lang/String;" = some ⟨[.int, .char, .char], (some (.object "java/lang/String"))⟩) rfl (g := (mkF m 174 #[.val (.int x0), .val (.int x1), .val (.int x2), .val (.int x3), .val (.int k1), .val (.int k2), .val (.int md), .val (.int tL), .val (.int t0), .val (.int t1), .val (.int dL), .val (.int d0), .val (.int d1), .val (.int eL), .val (.int e0), .val (.int e1), .val (.ref ra3), .unset, .unset, .unset, .unset, .unset, .unset] [(.int e1), (.int e0), (.int eL)])) rfl (by rw [hml]; rfl) rfl 0 (by show 2 * 0 + _ ≤ _; exact Nat.le_of_eq rfl) (hb hby at_174) (by decide) (by decide) (by decide) (by decide)
    have hC4 := hC3.trans CC4
    have N4 := Fr.app N3 Nc4
    have k0_4 := own_Sta_keep0 k0_3 Kc4
    have k1_4 := own_Sta_keep0 k1_3 Kc4
    have k2_4 := own_Sta_keep0 k2_3 Kc4
    have k3_4 := own_Sta_keep0 k3_3 Kc4
    have k4_4 := own_Sta_keep0 k4_3 Kc4
    have cs_4 := own_Sta_keep0 cs_3 Kc4
    have sa_4 := own_Str_keep0 Sa3 Kc4
    have K4 := K3.trans Kc4 all0
    have hZ := hZ4
    have hown := how4
    refine own_go st4 ?_
    have hab : ra3 ≠ ra4 := Nat.ne_of_lt (Nat.lt_of_lt_of_le Sa3.1.lt ga4)
    refine own_go (fun _ => XS.astore X4.here hx rfl (hb hby at_177) rfl rfl (l' := #[.val (.int x0), .val (.int x1), .val (.int x2), .val (.int x3), .val (.int k1), .val (.int k2), .val (.int md), .val (.int tL), .val (.int t0), .val (.int t1), .val (.int dL), .val (.int d0), .val (.int d1), .val (.int eL), .val (.int e0), .val (.int e1), .val (.ref ra3), .val (.ref ra4), .unset, .unset, .unset, .unset, .unset]) rfl) ?_
    refine own_go (fun _ => XS.iload X4.here hx rfl (hb hby at_179) rfl) ?_
    obtain ⟨T5, X5, e5, st5⟩ := own_callSP X4 hx hZ hown (argsL := [(.int k1)]) (rest := []) (own_kindOf_con l Z a0 hw k1 w0 w1 w2 w3 w4 T4.heap k0_4 k1_4 k2_4 k3_4 k4_4 []) rfl (hw _ (List.mem_of_getElem? (i := 37) rfl)) (hw _ (List.mem_of_getElem? (i := 38) rfl)) (hw _ (List.mem_of_getElem? (i := 2) rfl)) (hw _ (List.mem_of_getElem? (i := 39) rfl)) (by decide) (by decide +kernel : parseMethodDescriptor "(I)Lcom/example/secure_model_views/securemodelviews/PolicyTokens$Kind;" = some ⟨[.int], (some (.object "com/example/secure_model_views/securemodelviews/PolicyTokens$Kind"))⟩) rfl (g := (mkF m 181 #[.val (.int x0), .val (.int x1), .val (.int x2), .val (.int x3), .val (.int k1), .val (.int k2), .val (.int md), .val (.int tL), .val (.int t0), .val (.int t1), .val (.int dL), .val (.int d0), .val (.int d1), .val (.int eL), .val (.int e0), .val (.int e1), .val (.ref ra3), .val (.ref ra4), .unset, .unset, .unset, .unset, .unset] [(.int k1)])) rfl (by rw [hml]; rfl) rfl 0 (by show 2 * 0 + _ ≤ _; exact Nat.le_of_eq rfl) (hb hby at_181) (by decide) (by decide) rfl rfl (by decide) (by decide)
    refine own_go st5 ?_
    show own_Go p e below _ (T5.setTop (mkF m 184 #[.val (.int x0), .val (.int x1), .val (.int x2), .val (.int x3), .val (.int k1), .val (.int k2), .val (.int md), .val (.int tL), .val (.int t0), .val (.int t1), .val (.int dL), .val (.int d0), .val (.int d1), .val (.int eL), .val (.int e0), .val (.int e1), .val (.ref ra3), .val (.ref ra4), .unset, .unset, .unset, .unset, .unset] [(.ref (own_kind w0 w1 w2 w3 w4 k1))]))
    refine own_go (fun _ => XS.astore X5.here hx rfl (hb hby at_184) rfl rfl (l' := #[.val (.int x0), .val (.int x1), .val (.int x2), .val (.int x3), .val (.int k1), .val (.int k2), .val (.int md), .val (.int tL), .val (.int t0), .val (.int t1), .val (.int dL), .val (.int d0), .val (.int d1), .val (.int eL), .val (.int e0), .val (.int e1), .val (.ref ra3), .val (.ref ra4), .val (.ref (own_kind w0 w1 w2 w3 w4 k1)), .unset, .unset, .unset, .unset]) rfl) ?_
    refine own_go (fun _ => XS.iload X5.here hx rfl (hb hby at_186) rfl) ?_
    obtain ⟨T6, X6, e6, st6⟩ := own_callSP X5 hx hZ hown (argsL := [(.int k2)]) (rest := []) (own_kindOf_con l Z a0 hw k2 w0 w1 w2 w3 w4 T4.heap k0_4 k1_4 k2_4 k3_4 k4_4 []) e5 (hw _ (List.mem_of_getElem? (i := 37) rfl)) (hw _ (List.mem_of_getElem? (i := 38) rfl)) (hw _ (List.mem_of_getElem? (i := 2) rfl)) (hw _ (List.mem_of_getElem? (i := 39) rfl)) (by decide) (by decide +kernel : parseMethodDescriptor "(I)Lcom/example/secure_model_views/securemodelviews/PolicyTokens$Kind;" = some ⟨[.int], (some (.object "com/example/secure_model_views/securemodelviews/PolicyTokens$Kind"))⟩) rfl (g := (mkF m 188 #[.val (.int x0), .val (.int x1), .val (.int x2), .val (.int x3), .val (.int k1), .val (.int k2), .val (.int md), .val (.int tL), .val (.int t0), .val (.int t1), .val (.int dL), .val (.int d0), .val (.int d1), .val (.int eL), .val (.int e0), .val (.int e1), .val (.ref ra3), .val (.ref ra4), .val (.ref (own_kind w0 w1 w2 w3 w4 k1)), .unset, .unset, .unset, .unset] [(.int k2)])) rfl (by rw [hml]; rfl) rfl 0 (by show 2 * 0 + _ ≤ _; exact Nat.le_of_eq rfl) (hb hby at_188) (by decide) (by decide) rfl rfl (by decide) (by decide)
    refine own_go st6 ?_
    refine own_go (fun _ => XS.astore X6.here hx rfl (hb hby at_191) rfl rfl (l' := #[.val (.int x0), .val (.int x1), .val (.int x2), .val (.int x3), .val (.int k1), .val (.int k2), .val (.int md), .val (.int tL), .val (.int t0), .val (.int t1), .val (.int dL), .val (.int d0), .val (.int d1), .val (.int eL), .val (.int e0), .val (.int e1), .val (.ref ra3), .val (.ref ra4), .val (.ref (own_kind w0 w1 w2 w3 w4 k1)), .val (.ref (own_kind w0 w1 w2 w3 w4 k2)), .unset, .unset, .unset]) rfl) ?_
    show own_Go p e below _ (T6.setTop (mkF m 193 #[.val (.int x0), .val (.int x1), .val (.int x2), .val (.int x3), .val (.int k1), .val (.int k2), .val (.int md), .val (.int tL), .val (.int t0), .val (.int t1), .val (.int dL), .val (.int d0), .val (.int d1), .val (.int eL), .val (.int e0), .val (.int e1), .val (.ref ra3), .val (.ref ra4), .val (.ref (own_kind w0 w1 w2 w3 w4 k1)), .val (.ref (own_kind w0 w1 w2 w3 w4 k2)), .unset, .unset, .unset] []))
    obtain ⟨T7, h7, X7, e7, E7, C7, D7, -, st7⟩ := newO X6 hx hZ hown (hw _ (List.mem_of_getElem? (i := 43) rfl)) (hw _ (List.mem_of_getElem? (i := 44) rfl)) (hw _ (List.mem_of_getElem? (i := 45) rfl)) e6 (g := (mkF m 193 #[.val (.int x0), .val (.int x1), .val (.int x2), .val (.int x3), .val (.int k1), .val (.int k2), .val (.int md), .val (.int tL), .val (.int t0), .val (.int t1), .val (.int dL), .val (.int d0), .val (.int d1), .val (.int eL), .val (.int e0), .val (.int e1), .val (.ref ra3), .val (.ref ra4), .val (.ref (own_kind w0 w1 w2 w3 w4 k1)), .val (.ref (own_kind w0 w1 w2 w3 w4 k2)), .unset, .unset, .unset] [])) rfl (hb hby at_193) (by decide) (by decide)
    obtain ⟨a7, q7⟩ : ∃ z, z = T4.heap.size := ⟨_, rfl⟩
    rw [← q7] at C7 D7 st7
    have ne_ra3_a7 : ra3 ≠ a7 := fun z => absurd sa_4.lt (by rw [z, q7]; exact Nat.lt_irrefl _)
    have ne_ra4_a7 : ra4 ≠ a7 := fun z => absurd Sa4.lt (by rw [z, q7]; exact Nat.lt_irrefl _)
    have cs_7 := cs_4.ext E7
    have sa_7 := sa_4.ext E7
    have sb_7 := Sa4.ext E7
    have K7 := K4.ext E7
    have o_kind_7 := D7 (Or.inr (hw _ (List.mem_of_getElem? (i := 56) rfl))) (ty := (.object "com/example/secure_model_views/securemodelviews/PolicyTokens$Kind")) (by decide)
    have o_text_7 := D7 (Or.inr (hw _ (List.mem_of_getElem? (i := 58) rfl))) (ty := (.object "java/lang/String")) (by decide)
    have o_line_7 := D7 (Or.inr (hw _ (List.mem_of_getElem? (i := 60) rfl))) (ty := .int) (by decide)
    refine own_go st7 ?_
    have ft : h0.size ≤ a7 := by rw [q7]; exact K4.1
    refine own_go (fun _ => XS.dup X7.here hx rfl (hb hby at_196) rfl rfl) ?_
    refine own_go (fun _ => XS.aload X7.here hx rfl (hb hby at_197) rfl rfl) ?_
    refine own_go (fun _ => XS.aload X7.here hx rfl (hb hby at_199) rfl rfl) ?_
    show own_Go p e below _ (T7.setTop (mkF m 201 #[.val (.int x0), .val (.int x1), .val (.int x2), .val (.int x3), .val (.int k1), .val (.int k2), .val (.int md), .val (.int tL), .val (.int t0), .val (.int t1), .val (.int dL), .val (.int d0), .val (.int d1), .val (.int eL), .val (.int e0), .val (.int e1), .val (.ref ra3), .val (.ref ra4), .val (.ref (own_kind w0 w1 w2 w3 w4 k1)), .val (.ref (own_kind w0 w1 w2 w3 w4 k2)), .unset, .unset, .unset] [(.ref ra3), (.ref (own_kind w0 w1 w2 w3 w4 k1)), (.ref a7), (.ref a7)]))
    refine own_go (fun _ => XS.iloadN X7.here hx rfl (hb hby at_201) rfl) ?_
    obtain ⟨_, T8, L8, X8, ⟨rfl, Nc8, Kc8, fk8, fx8⟩, st8⟩ := own_callI X7 hx hZ hown rfl (argsL := [(.ref (own_kind w0 w1 w2 w3 w4 k1)), (.ref ra3), (.int x3)]) (rest := [(.ref a7)]) (own_tok_con l Z a0 hw a7 (own_kind w0 w1 w2 w3 w4 k1) ra3 x3 h0.size h7 C7 o_kind_7 o_text_7 o_line_7 ft []) e7 (hw _ (List.mem_of_getElem? (i := 46) rfl)) (hw _ (List.mem_of_getElem? (i := 47) rfl)) (hw _ (List.mem_of_getElem? (i := 45) rfl)) (hw _ (List.mem_of_getElem? (i := 48) rfl)) (by decide) (by decide +kernel : parseMethodDescriptor "(Lcom/example/secure_model_views/securemodelviews/PolicyTokens$Kind;Ljava/lang/String;I)V" = some ⟨[(.object "com/example/secure_model_views/securemodelviews/PolicyTokens$Kind"), (.object "java/lang/String"), .int], none⟩) rfl (g := (mkF m 202 #[.val (.int x0), .val (.int x1), .val (.int x2), .val (.int x3), .val (.int k1), .val (.int k2), .val (.int md), .val (.int tL), .val (.int t0), .val (.int t1), .val (.int dL), .val (.int d0), .val (.int d1), .val (.int eL), .val (.int e0), .val (.int e1), .val (.ref ra3), .val (.ref ra4), .val (.ref (own_kind w0 w1 w2 w3 w4 k1)), .val (.ref (own_kind w0 w1 w2 w3 w4 k2)), .unset, .unset, .unset] [(.int x3), (.ref ra3), (.ref (own_kind w0 w1 w2 w3 w4 k1)), (.ref a7), (.ref a7)])) rfl (by rw [hml]; rfl) rfl 1 (by show 2 * 0 + _ ≤ _; exact Nat.le_of_eq rfl) (hb hby at_202) (by decide) (by decide) (by decide) (by decide)
    have N8 := Fr.app N4 Nc8
    have o_E_8 := C7.keep Kc8
    have cs_8 := own_Sta_keep1 cs_7 Kc8 C7
    have sa_8 := own_Str_keep1 sa_7 Kc8 C7 (hw _ (List.mem_of_getElem? (i := 44) rfl))
    have sb_8 := own_Str_keep1 sb_7 Kc8 C7 (hw _ (List.mem_of_getElem? (i := 44) rfl))
    have K8 := K7.trans Kc8 (allS (Or.inr ft) all0)
    refine own_go st8 ?_
    refine own_go (fun _ => XS.astore X8.here hx rfl (hb hby at_205) rfl rfl (l' := #[.val (.int x0), .val (.int x1), .val (.int x2), .val (.int x3), .val (.int k1), .val (.int k2), .val (.int md), .val (.int tL), .val (.int t0), .val (.int t1), .val (.int dL), .val (.int d0), .val (.int d1), .val (.int eL), .val (.int e0), .val (.int e1), .val (.ref ra3), .val (.ref ra4), .val (.ref (own_kind w0 w1 w2 w3 w4 k1)), .val (.ref (own_kind w0 w1 w2 w3 w4 k2)), .val (.ref a7), .unset, .unset]) rfl) ?_
    refine own_go (fun _ => XS.aload X8.here hx rfl (hb hby at_207) rfl rfl) ?_
    show own_Go p e below _ (T8.setTop (mkF m 209 #[.val (.int x0), .val (.int x1), .val (.int x2), .val (.int x3), .val (.int k1), .val (.int k2), .val (.int md), .val (.int tL), .val (.int t0), .val (.int t1), .val (.int dL), .val (.int d0), .val (.int d1), .val (.int eL), .val (.int e0), .val (.int e1), .val (.ref ra3), .val (.ref ra4), .val (.ref (own_kind w0 w1 w2 w3 w4 k1)), .val (.ref (own_kind w0 w1 w2 w3 w4 k2)), .val (.ref a7), .unset, .unset] [(.ref a7)]))
    refine own_go (fun _ => XS.aload X8.here hx rfl (hb hby at_209) rfl rfl) ?_
    refine own_go (fun _ => XS.aload X8.here hx rfl (hb hby at_211) rfl rfl) ?_
    obtain ⟨_, T9, L9, X9, ⟨rfl, eh9, rfl⟩, st9⟩ := own_callV X8 hx hZ hown (argsL := [(.ref (own_kind w0 w1 w2 w3 w4 k2)), (.ref ra4)]) (rest := []) (own_is_con l Z a0 hw a7 (own_kind w0 w1 w2 w3 w4 k1) ra3 (own_kind w0 w1 w2 w3 w4 k2) ra4 zc (own_bs tL t0 t1) (own_bs eL e0 e1) T8.heap fk8 fx8 sa_8 sb_8 cs_8 hzc hab []) rfl o_E_8 (hw _ (List.mem_of_getElem? (i := 61) rfl)) (hw _ (List.mem_of_getElem? (i := 62) rfl)) (hw _ (List.mem_of_getElem? (i := 64) rfl)) (hw _ (List.mem_of_getElem? (i := 63) rfl)) (hw _ (List.mem_of_getElem? (i := 45) rfl)) (hw _ (List.mem_of_getElem? (i := 65) rfl)) (notFace_of_selects (args := #[]) (mvT hZ (hw _ (List.mem_of_getElem? (i := 64) rfl)))) (by decide) (by decide +kernel : parseMethodDescriptor "(Lcom/example/secure_model_views/securemodelviews/PolicyTokens$Kind;Ljava/lang/String;)Z" = some ⟨[(.object "com/example/secure_model_views/securemodelviews/PolicyTokens$Kind"), (.object "java/lang/String")], some .boolean⟩) rfl (g := (mkF m 213 #[.val (.int x0), .val (.int x1), .val (.int x2), .val (.int x3), .val (.int k1), .val (.int k2), .val (.int md), .val (.int tL), .val (.int t0), .val (.int t1), .val (.int dL), .val (.int d0), .val (.int d1), .val (.int eL), .val (.int e0), .val (.int e1), .val (.ref ra3), .val (.ref ra4), .val (.ref (own_kind w0 w1 w2 w3 w4 k1)), .val (.ref (own_kind w0 w1 w2 w3 w4 k2)), .val (.ref a7), .unset, .unset] [(.ref ra4), (.ref (own_kind w0 w1 w2 w3 w4 k2)), (.ref a7)])) rfl (by rw [hml]; rfl) rfl 0 (by show 2 * 0 + _ ≤ _; exact Nat.le_of_eq rfl) (hb hby at_213) (by decide) (by decide) (by decide) (by decide)
    rw [List.append_nil] at X9
    refine own_go st9 ?_
    refine own_go (fun _ => XS.istore X9.here hx rfl (hb hby at_216) rfl (l' := #[.val (.int x0), .val (.int x1), .val (.int x2), .val (.int x3), .val (.int k1), .val (.int k2), .val (.int md), .val (.int tL), .val (.int t0), .val (.int t1), .val (.int dL), .val (.int d0), .val (.int d1), .val (.int eL), .val (.int e0), .val (.int e1), .val (.ref ra3), .val (.ref ra4), .val (.ref (own_kind w0 w1 w2 w3 w4 k1)), .val (.ref (own_kind w0 w1 w2 w3 w4 k2)), .val (.ref a7), .val (.int (if (own_kind w0 w1 w2 w3 w4 k1) = (own_kind w0 w1 w2 w3 w4 k2) ∧ own_bs tL t0 t1 = own_bs eL e0 e1 then (1 : Int32) else 0)), .unset]) rfl) ?_
    show own_Go p e below _ (T9.setTop (mkF m 218 #[.val (.int x0), .val (.int x1), .val (.int x2), .val (.int x3), .val (.int k1), .val (.int k2), .val (.int md), .val (.int tL), .val (.int t0), .val (.int t1), .val (.int dL), .val (.int d0), .val (.int d1), .val (.int eL), .val (.int e0), .val (.int e1), .val (.ref ra3), .val (.ref ra4), .val (.ref (own_kind w0 w1 w2 w3 w4 k1)), .val (.ref (own_kind w0 w1 w2 w3 w4 k2)), .val (.ref a7), .val (.int (if (own_kind w0 w1 w2 w3 w4 k1) = (own_kind w0 w1 w2 w3 w4 k2) ∧ own_bs tL t0 t1 = own_bs eL e0 e1 then (1 : Int32) else 0)), .unset] []))
    obtain ⟨got, h_got⟩ : ∃ z : Int32, z = (if (own_kind w0 w1 w2 w3 w4 k1) = (own_kind w0 w1 w2 w3 w4 k2) ∧ own_bs tL t0 t1 = own_bs eL e0 e1 then (1 : Int32) else 0) := ⟨_, rfl⟩
    show own_Go p e below _ (T9.setTop (mkF m 218 #[.val (.int x0), .val (.int x1), .val (.int x2), .val (.int x3), .val (.int k1), .val (.int k2), .val (.int md), .val (.int tL), .val (.int t0), .val (.int t1), .val (.int dL), .val (.int d0), .val (.int d1), .val (.int eL), .val (.int e0), .val (.int e1), .val (.ref ra3), .val (.ref ra4), .val (.ref (own_kind w0 w1 w2 w3 w4 k1)), .val (.ref (own_kind w0 w1 w2 w3 w4 k2)), .val (.ref a7), .val (.int (if (own_kind w0 w1 w2 w3 w4 k1) = (own_kind w0 w1 w2 w3 w4 k2) ∧ own_bs tL t0 t1 = own_bs eL e0 e1 then (1 : Int32) else 0)), .unset] []))
    rw [← h_got]
    show own_Go p e below _ (T9.setTop (mkF m 218 #[.val (.int x0), .val (.int x1), .val (.int x2), .val (.int x3), .val (.int k1), .val (.int k2), .val (.int md), .val (.int tL), .val (.int t0), .val (.int t1), .val (.int dL), .val (.int d0), .val (.int d1), .val (.int eL), .val (.int e0), .val (.int e1), .val (.ref ra3), .val (.ref ra4), .val (.ref (own_kind w0 w1 w2 w3 w4 k1)), .val (.ref (own_kind w0 w1 w2 w3 w4 k2)), .val (.ref a7), .val (.int got), .unset] []))
    have hg : (got = 1 ∧ (k1 = k2 ∧ tL = eL ∧ (tL < 1 ∨ t0 = e0) ∧ (tL < 2 ∨ t1 = e1))) ∨ (got = 0 ∧ ¬ (k1 = k2 ∧ tL = eL ∧ (tL < 1 ∨ t0 = e0) ∧ (tL < 2 ∨ t1 = e1))) := by
      rw [h_got]
      by_cases q : (own_kind w0 w1 w2 w3 w4 k1) = (own_kind w0 w1 w2 w3 w4 k2) ∧ own_bs tL t0 t1 = own_bs eL e0 e1
      · exact Or.inl ⟨if_pos q, (hK _ _ r_k1 r_k2).mp q.1, (own_bs_eq r_tL r_eL r_t0 r_t1 r_e0 r_e1).mp q.2⟩
      · exact Or.inr ⟨if_neg q, fun r => q ⟨(hK _ _ r_k1 r_k2).mpr r.1, (own_bs_eq r_tL r_eL r_t0 r_t1 r_e0 r_e1).mpr r.2⟩⟩
    have hkE : T4.heap.size ≤ T9.heap.size := by rw [eh9]; exact Nat.le_trans E7.1 Kc8.1
    refine own_go (fun _ => XS.iload X9.here hx rfl (hb hby at_218) rfl) ?_
    refine own_go (fun _ => XS.iload X9.here hx rfl (hb hby at_220) rfl) ?_
    by_cases c1 : k1 = k2
    · skip
      refine own_go (fun _ => XS.icmpNo X9.here hx rfl (hb hby at_222) rfl (XT.ii_ne_f c1)) ?_
      refine own_go (fun _ => XS.iload X9.here hx rfl (hb hby at_225) rfl) ?_
      show own_Go p e below _ (T9.setTop (mkF m 227 #[.val (.int x0), .val (.int x1), .val (.int x2), .val (.int x3), .val (.int k1), .val (.int k2), .val (.int md), .val (.int tL), .val (.int t0), .val (.int t1), .val (.int dL), .val (.int d0), .val (.int d1), .val (.int eL), .val (.int e0), .val (.int e1), .val (.ref ra3), .val (.ref ra4), .val (.ref (own_kind w0 w1 w2 w3 w4 k1)), .val (.ref (own_kind w0 w1 w2 w3 w4 k2)), .val (.ref a7), .val (.int got), .unset] [(.int tL)]))
      refine own_go (fun _ => XS.iload X9.here hx rfl (hb hby at_227) rfl) ?_
      by_cases c2 : tL = eL
      · skip
        refine own_go (fun _ => XS.icmpNo X9.here hx rfl (hb hby at_229) rfl (XT.ii_ne_f c2)) ?_
        refine own_go (fun _ => XS.iload X9.here hx rfl (hb hby at_232) rfl) ?_
        refine own_go (fun _ => XS.iconst X9.here hx rfl (hb hby at_234)) ?_
        show own_Go p e below _ (T9.setTop (mkF m 235 #[.val (.int x0), .val (.int x1), .val (.int x2), .val (.int x3), .val (.int k1), .val (.int k2), .val (.int md), .val (.int tL), .val (.int t0), .val (.int t1), .val (.int dL), .val (.int d0), .val (.int d1), .val (.int eL), .val (.int e0), .val (.int e1), .val (.ref ra3), .val (.ref ra4), .val (.ref (own_kind w0 w1 w2 w3 w4 k1)), .val (.ref (own_kind w0 w1 w2 w3 w4 k2)), .val (.ref a7), .val (.int got), .unset] [(.int (1 : Int32)), (.int tL)]))
        by_cases c3 : tL < (1 : Int32)
        · skip
          refine own_go (fun _ => XS.icmpYes X9.here hx rfl (pc0 := 235) (pc' := 245) rfl (hb hby at_235) rfl (XT.ii_lt_t c3) (by decide) (by decide)) ?_
          refine own_go (fun _ => XS.iload X9.here hx rfl (hb hby at_245) rfl) ?_
          refine own_go (fun _ => XS.iconst X9.here hx rfl (hb hby at_247)) ?_
          by_cases c4 : tL < (2 : Int32)
          · skip
            refine own_go (fun _ => XS.icmpYes X9.here hx rfl (pc0 := 248) (pc' := 258) rfl (hb hby at_248) rfl (XT.ii_lt_t c4) (by decide) (by decide)) ?_
            show own_Go p e below _ (T9.setTop (mkF m 258 #[.val (.int x0), .val (.int x1), .val (.int x2), .val (.int x3), .val (.int k1), .val (.int k2), .val (.int md), .val (.int tL), .val (.int t0), .val (.int t1), .val (.int dL), .val (.int d0), .val (.int d1), .val (.int eL), .val (.int e0), .val (.int e1), .val (.ref ra3), .val (.ref ra4), .val (.ref (own_kind w0 w1 w2 w3 w4 k1)), .val (.ref (own_kind w0 w1 w2 w3 w4 k2)), .val (.ref a7), .val (.int got), .unset] []))
            refine own_go (fun _ => XS.iconst X9.here hx rfl (hb hby at_258)) ?_
            refine own_go (fun _ => XS.goto X9.here hx rfl (pc0 := 259) (pc' := 263) rfl (hb hby at_259) (by decide) (by decide)) ?_
            refine own_go (fun _ => XS.istore X9.here hx rfl (hb hby at_263) rfl (l' := #[.val (.int x0), .val (.int x1), .val (.int x2), .val (.int x3), .val (.int k1), .val (.int k2), .val (.int md), .val (.int tL), .val (.int t0), .val (.int t1), .val (.int dL), .val (.int d0), .val (.int d1), .val (.int eL), .val (.int e0), .val (.int e1), .val (.ref ra3), .val (.ref ra4), .val (.ref (own_kind w0 w1 w2 w3 w4 k1)), .val (.ref (own_kind w0 w1 w2 w3 w4 k2)), .val (.ref a7), .val (.int got), .val (.int (1 : Int32))]) rfl) ?_
            rcases hg with ⟨hg, hp⟩ | ⟨hg, hp⟩
            · skip
              subst hg
              show own_Go p e below _ (T9.setTop (mkF m 265 #[.val (.int x0), .val (.int x1), .val (.int x2), .val (.int x3), .val (.int k1), .val (.int k2), .val (.int md), .val (.int tL), .val (.int t0), .val (.int t1), .val (.int dL), .val (.int d0), .val (.int d1), .val (.int eL), .val (.int e0), .val (.int e1), .val (.ref ra3), .val (.ref ra4), .val (.ref (own_kind w0 w1 w2 w3 w4 k1)), .val (.ref (own_kind w0 w1 w2 w3 w4 k2)), .val (.ref a7), .val (.int (1 : Int32)), .val (.int (1 : Int32))] []))
              refine own_go (fun _ => XS.iload X9.here hx rfl (hb hby at_265) rfl) ?_
              refine own_go (fun _ => XS.iload X9.here hx rfl (hb hby at_267) rfl) ?_
              refine own_go (fun _ => XS.icmpNo X9.here hx rfl (hb hby at_269) rfl (XT.ii_ne_f rfl)) ?_
              refine own_go (fun _ => XS.iconst X9.here hx rfl (hb hby at_272)) ?_
              show own_Go p e below _ (T9.setTop (mkF m 273 #[.val (.int x0), .val (.int x1), .val (.int x2), .val (.int x3), .val (.int k1), .val (.int k2), .val (.int md), .val (.int tL), .val (.int t0), .val (.int t1), .val (.int dL), .val (.int d0), .val (.int d1), .val (.int eL), .val (.int e0), .val (.int e1), .val (.ref ra3), .val (.ref ra4), .val (.ref (own_kind w0 w1 w2 w3 w4 k1)), .val (.ref (own_kind w0 w1 w2 w3 w4 k2)), .val (.ref a7), .val (.int (1 : Int32)), .val (.int (1 : Int32))] [(.int (1 : Int32))]))
              refine own_go (fun _ => XS.goto X9.here hx rfl (pc0 := 273) (pc' := 277) rfl (hb hby at_273) (by decide) (by decide)) ?_
              exact own_iretM X9 hx hlk hret (Or.inr (Or.inl rfl)) rfl (hb hby at_277) hS4 hkE (by decide) (by decide) ⟨rfl, N8⟩
            · skip
              exact absurd ⟨c1, c2, Or.inl c3, Or.inl c4⟩ hp
          · skip
            refine own_go (fun _ => XS.icmpNo X9.here hx rfl (hb hby at_248) rfl (XT.ii_lt_f c4)) ?_
            refine own_go (fun _ => XS.iload X9.here hx rfl (hb hby at_251) rfl) ?_
            refine own_go (fun _ => XS.iload X9.here hx rfl (hb hby at_253) rfl) ?_
            show own_Go p e below _ (T9.setTop (mkF m 255 #[.val (.int x0), .val (.int x1), .val (.int x2), .val (.int x3), .val (.int k1), .val (.int k2), .val (.int md), .val (.int tL), .val (.int t0), .val (.int t1), .val (.int dL), .val (.int d0), .val (.int d1), .val (.int eL), .val (.int e0), .val (.int e1), .val (.ref ra3), .val (.ref ra4), .val (.ref (own_kind w0 w1 w2 w3 w4 k1)), .val (.ref (own_kind w0 w1 w2 w3 w4 k2)), .val (.ref a7), .val (.int got), .unset] [(.int e1), (.int t1)]))
            by_cases c5 : t1 = e1
            · skip
              refine own_go (fun _ => XS.icmpNo X9.here hx rfl (hb hby at_255) rfl (XT.ii_ne_f c5)) ?_
              refine own_go (fun _ => XS.iconst X9.here hx rfl (hb hby at_258)) ?_
              refine own_go (fun _ => XS.goto X9.here hx rfl (pc0 := 259) (pc' := 263) rfl (hb hby at_259) (by decide) (by decide)) ?_
              refine own_go (fun _ => XS.istore X9.here hx rfl (hb hby at_263) rfl (l' := #[.val (.int x0), .val (.int x1), .val (.int x2), .val (.int x3), .val (.int k1), .val (.int k2), .val (.int md), .val (.int tL), .val (.int t0), .val (.int t1), .val (.int dL), .val (.int d0), .val (.int d1), .val (.int eL), .val (.int e0), .val (.int e1), .val (.ref ra3), .val (.ref ra4), .val (.ref (own_kind w0 w1 w2 w3 w4 k1)), .val (.ref (own_kind w0 w1 w2 w3 w4 k2)), .val (.ref a7), .val (.int got), .val (.int (1 : Int32))]) rfl) ?_
              show own_Go p e below _ (T9.setTop (mkF m 265 #[.val (.int x0), .val (.int x1), .val (.int x2), .val (.int x3), .val (.int k1), .val (.int k2), .val (.int md), .val (.int tL), .val (.int t0), .val (.int t1), .val (.int dL), .val (.int d0), .val (.int d1), .val (.int eL), .val (.int e0), .val (.int e1), .val (.ref ra3), .val (.ref ra4), .val (.ref (own_kind w0 w1 w2 w3 w4 k1)), .val (.ref (own_kind w0 w1 w2 w3 w4 k2)), .val (.ref a7), .val (.int got), .val (.int (1 : Int32))] []))
              rcases hg with ⟨hg, hp⟩ | ⟨hg, hp⟩
              · skip
                subst hg
                show own_Go p e below _ (T9.setTop (mkF m 265 #[.val (.int x0), .val (.int x1), .val (.int x2), .val (.int x3), .val (.int k1), .val (.int k2), .val (.int md), .val (.int tL), .val (.int t0), .val (.int t1), .val (.int dL), .val (.int d0), .val (.int d1), .val (.int eL), .val (.int e0), .val (.int e1), .val (.ref ra3), .val (.ref ra4), .val (.ref (own_kind w0 w1 w2 w3 w4 k1)), .val (.ref (own_kind w0 w1 w2 w3 w4 k2)), .val (.ref a7), .val (.int (1 : Int32)), .val (.int (1 : Int32))] []))
                refine own_go (fun _ => XS.iload X9.here hx rfl (hb hby at_265) rfl) ?_
                refine own_go (fun _ => XS.iload X9.here hx rfl (hb hby at_267) rfl) ?_
                refine own_go (fun _ => XS.icmpNo X9.here hx rfl (hb hby at_269) rfl (XT.ii_ne_f rfl)) ?_
                refine own_go (fun _ => XS.iconst X9.here hx rfl (hb hby at_272)) ?_
                show own_Go p e below _ (T9.setTop (mkF m 273 #[.val (.int x0), .val (.int x1), .val (.int x2), .val (.int x3), .val (.int k1), .val (.int k2), .val (.int md), .val (.int tL), .val (.int t0), .val (.int t1), .val (.int dL), .val (.int d0), .val (.int d1), .val (.int eL), .val (.int e0), .val (.int e1), .val (.ref ra3), .val (.ref ra4), .val (.ref (own_kind w0 w1 w2 w3 w4 k1)), .val (.ref (own_kind w0 w1 w2 w3 w4 k2)), .val (.ref a7), .val (.int (1 : Int32)), .val (.int (1 : Int32))] [(.int (1 : Int32))]))
                refine own_go (fun _ => XS.goto X9.here hx rfl (pc0 := 273) (pc' := 277) rfl (hb hby at_273) (by decide) (by decide)) ?_
                exact own_iretM X9 hx hlk hret (Or.inr (Or.inl rfl)) rfl (hb hby at_277) hS4 hkE (by decide) (by decide) ⟨rfl, N8⟩
              · skip
                exact absurd ⟨c1, c2, Or.inl c3, Or.inr c5⟩ hp
            · skip
              refine own_go (fun _ => XS.icmpYes X9.here hx rfl (pc0 := 255) (pc' := 262) rfl (hb hby at_255) rfl (XT.ii_ne_t c5) (by decide) (by decide)) ?_
              refine own_go (fun _ => XS.iconst X9.here hx rfl (hb hby at_262)) ?_
              refine own_go (fun _ => XS.istore X9.here hx rfl (hb hby at_263) rfl (l' := #[.val (.int x0), .val (.int x1), .val (.int x2), .val (.int x3), .val (.int k1), .val (.int k2), .val (.int md), .val (.int tL), .val (.int t0), .val (.int t1), .val (.int dL), .val (.int d0), .val (.int d1), .val (.int eL), .val (.int e0), .val (.int e1), .val (.ref ra3), .val (.ref ra4), .val (.ref (own_kind w0 w1 w2 w3 w4 k1)), .val (.ref (own_kind w0 w1 w2 w3 w4 k2)), .val (.ref a7), .val (.int got), .val (.int (0 : Int32))]) rfl) ?_
              show own_Go p e below _ (T9.setTop (mkF m 265 #[.val (.int x0), .val (.int x1), .val (.int x2), .val (.int x3), .val (.int k1), .val (.int k2), .val (.int md), .val (.int tL), .val (.int t0), .val (.int t1), .val (.int dL), .val (.int d0), .val (.int d1), .val (.int eL), .val (.int e0), .val (.int e1), .val (.ref ra3), .val (.ref ra4), .val (.ref (own_kind w0 w1 w2 w3 w4 k1)), .val (.ref (own_kind w0 w1 w2 w3 w4 k2)), .val (.ref a7), .val (.int got), .val (.int (0 : Int32))] []))
              rcases hg with ⟨hg, hp⟩ | ⟨hg, hp⟩
              · skip
                exact absurd hp.2.2.2 (fun z => z.elim c4 c5)
              · skip
                subst hg
                show own_Go p e below _ (T9.setTop (mkF m 265 #[.val (.int x0), .val (.int x1), .val (.int x2), .val (.int x3), .val (.int k1), .val (.int k2), .val (.int md), .val (.int tL), .val (.int t0), .val (.int t1), .val (.int dL), .val (.int d0), .val (.int d1), .val (.int eL), .val (.int e0), .val (.int e1), .val (.ref ra3), .val (.ref ra4), .val (.ref (own_kind w0 w1 w2 w3 w4 k1)), .val (.ref (own_kind w0 w1 w2 w3 w4 k2)), .val (.ref a7), .val (.int (0 : Int32)), .val (.int (0 : Int32))] []))
                refine own_go (fun _ => XS.iload X9.here hx rfl (hb hby at_265) rfl) ?_
                refine own_go (fun _ => XS.iload X9.here hx rfl (hb hby at_267) rfl) ?_
                refine own_go (fun _ => XS.icmpNo X9.here hx rfl (hb hby at_269) rfl (XT.ii_ne_f rfl)) ?_
                refine own_go (fun _ => XS.iconst X9.here hx rfl (hb hby at_272)) ?_
                show own_Go p e below _ (T9.setTop (mkF m 273 #[.val (.int x0), .val (.int x1), .val (.int x2), .val (.int x3), .val (.int k1), .val (.int k2), .val (.int md), .val (.int tL), .val (.int t0), .val (.int t1), .val (.int dL), .val (.int d0), .val (.int d1), .val (.int eL), .val (.int e0), .val (.int e1), .val (.ref ra3), .val (.ref ra4), .val (.ref (own_kind w0 w1 w2 w3 w4 k1)), .val (.ref (own_kind w0 w1 w2 w3 w4 k2)), .val (.ref a7), .val (.int (0 : Int32)), .val (.int (0 : Int32))] [(.int (1 : Int32))]))
                refine own_go (fun _ => XS.goto X9.here hx rfl (pc0 := 273) (pc' := 277) rfl (hb hby at_273) (by decide) (by decide)) ?_
                exact own_iretM X9 hx hlk hret (Or.inr (Or.inl rfl)) rfl (hb hby at_277) hS4 hkE (by decide) (by decide) ⟨rfl, N8⟩
        · skip
          refine own_go (fun _ => XS.icmpNo X9.here hx rfl (hb hby at_235) rfl (XT.ii_lt_f c3)) ?_
          refine own_go (fun _ => XS.iload X9.here hx rfl (hb hby at_238) rfl) ?_
          refine own_go (fun _ => XS.iload X9.here hx rfl (hb hby at_240) rfl) ?_
          show own_Go p e below _ (T9.setTop (mkF m 242 #[.val (.int x0), .val (.int x1), .val (.int x2), .val (.int x3), .val (.int k1), .val (.int k2), .val (.int md), .val (.int tL), .val (.int t0), .val (.int t1), .val (.int dL), .val (.int d0), .val (.int d1), .val (.int eL), .val (.int e0), .val (.int e1), .val (.ref ra3), .val (.ref ra4), .val (.ref (own_kind w0 w1 w2 w3 w4 k1)), .val (.ref (own_kind w0 w1 w2 w3 w4 k2)), .val (.ref a7), .val (.int got), .unset] [(.int e0), (.int t0)]))
          by_cases c4 : t0 = e0
          · skip
            refine own_go (fun _ => XS.icmpNo X9.here hx rfl (hb hby at_242) rfl (XT.ii_ne_f c4)) ?_
            refine own_go (fun _ => XS.iload X9.here hx rfl (hb hby at_245) rfl) ?_
            refine own_go (fun _ => XS.iconst X9.here hx rfl (hb hby at_247)) ?_
            by_cases c5 : tL < (2 : Int32)
            · skip
              refine own_go (fun _ => XS.icmpYes X9.here hx rfl (pc0 := 248) (pc' := 258) rfl (hb hby at_248) rfl (XT.ii_lt_t c5) (by decide) (by decide)) ?_
              show own_Go p e below _ (T9.setTop (mkF m 258 #[.val (.int x0), .val (.int x1), .val (.int x2), .val (.int x3), .val (.int k1), .val (.int k2), .val (.int md), .val (.int tL), .val (.int t0), .val (.int t1), .val (.int dL), .val (.int d0), .val (.int d1), .val (.int eL), .val (.int e0), .val (.int e1), .val (.ref ra3), .val (.ref ra4), .val (.ref (own_kind w0 w1 w2 w3 w4 k1)), .val (.ref (own_kind w0 w1 w2 w3 w4 k2)), .val (.ref a7), .val (.int got), .unset] []))
              refine own_go (fun _ => XS.iconst X9.here hx rfl (hb hby at_258)) ?_
              refine own_go (fun _ => XS.goto X9.here hx rfl (pc0 := 259) (pc' := 263) rfl (hb hby at_259) (by decide) (by decide)) ?_
              refine own_go (fun _ => XS.istore X9.here hx rfl (hb hby at_263) rfl (l' := #[.val (.int x0), .val (.int x1), .val (.int x2), .val (.int x3), .val (.int k1), .val (.int k2), .val (.int md), .val (.int tL), .val (.int t0), .val (.int t1), .val (.int dL), .val (.int d0), .val (.int d1), .val (.int eL), .val (.int e0), .val (.int e1), .val (.ref ra3), .val (.ref ra4), .val (.ref (own_kind w0 w1 w2 w3 w4 k1)), .val (.ref (own_kind w0 w1 w2 w3 w4 k2)), .val (.ref a7), .val (.int got), .val (.int (1 : Int32))]) rfl) ?_
              rcases hg with ⟨hg, hp⟩ | ⟨hg, hp⟩
              · skip
                subst hg
                show own_Go p e below _ (T9.setTop (mkF m 265 #[.val (.int x0), .val (.int x1), .val (.int x2), .val (.int x3), .val (.int k1), .val (.int k2), .val (.int md), .val (.int tL), .val (.int t0), .val (.int t1), .val (.int dL), .val (.int d0), .val (.int d1), .val (.int eL), .val (.int e0), .val (.int e1), .val (.ref ra3), .val (.ref ra4), .val (.ref (own_kind w0 w1 w2 w3 w4 k1)), .val (.ref (own_kind w0 w1 w2 w3 w4 k2)), .val (.ref a7), .val (.int (1 : Int32)), .val (.int (1 : Int32))] []))
                refine own_go (fun _ => XS.iload X9.here hx rfl (hb hby at_265) rfl) ?_
                refine own_go (fun _ => XS.iload X9.here hx rfl (hb hby at_267) rfl) ?_
                refine own_go (fun _ => XS.icmpNo X9.here hx rfl (hb hby at_269) rfl (XT.ii_ne_f rfl)) ?_
                refine own_go (fun _ => XS.iconst X9.here hx rfl (hb hby at_272)) ?_
                show own_Go p e below _ (T9.setTop (mkF m 273 #[.val (.int x0), .val (.int x1), .val (.int x2), .val (.int x3), .val (.int k1), .val (.int k2), .val (.int md), .val (.int tL), .val (.int t0), .val (.int t1), .val (.int dL), .val (.int d0), .val (.int d1), .val (.int eL), .val (.int e0), .val (.int e1), .val (.ref ra3), .val (.ref ra4), .val (.ref (own_kind w0 w1 w2 w3 w4 k1)), .val (.ref (own_kind w0 w1 w2 w3 w4 k2)), .val (.ref a7), .val (.int (1 : Int32)), .val (.int (1 : Int32))] [(.int (1 : Int32))]))
                refine own_go (fun _ => XS.goto X9.here hx rfl (pc0 := 273) (pc' := 277) rfl (hb hby at_273) (by decide) (by decide)) ?_
                exact own_iretM X9 hx hlk hret (Or.inr (Or.inl rfl)) rfl (hb hby at_277) hS4 hkE (by decide) (by decide) ⟨rfl, N8⟩
              · skip
                exact absurd ⟨c1, c2, Or.inr c4, Or.inl c5⟩ hp
            · skip
              refine own_go (fun _ => XS.icmpNo X9.here hx rfl (hb hby at_248) rfl (XT.ii_lt_f c5)) ?_
              refine own_go (fun _ => XS.iload X9.here hx rfl (hb hby at_251) rfl) ?_
              refine own_go (fun _ => XS.iload X9.here hx rfl (hb hby at_253) rfl) ?_
              show own_Go p e below _ (T9.setTop (mkF m 255 #[.val (.int x0), .val (.int x1), .val (.int x2), .val (.int x3), .val (.int k1), .val (.int k2), .val (.int md), .val (.int tL), .val (.int t0), .val (.int t1), .val (.int dL), .val (.int d0), .val (.int d1), .val (.int eL), .val (.int e0), .val (.int e1), .val (.ref ra3), .val (.ref ra4), .val (.ref (own_kind w0 w1 w2 w3 w4 k1)), .val (.ref (own_kind w0 w1 w2 w3 w4 k2)), .val (.ref a7), .val (.int got), .unset] [(.int e1), (.int t1)]))
              by_cases c6 : t1 = e1
              · skip
                refine own_go (fun _ => XS.icmpNo X9.here hx rfl (hb hby at_255) rfl (XT.ii_ne_f c6)) ?_
                refine own_go (fun _ => XS.iconst X9.here hx rfl (hb hby at_258)) ?_
                refine own_go (fun _ => XS.goto X9.here hx rfl (pc0 := 259) (pc' := 263) rfl (hb hby at_259) (by decide) (by decide)) ?_
                refine own_go (fun _ => XS.istore X9.here hx rfl (hb hby at_263) rfl (l' := #[.val (.int x0), .val (.int x1), .val (.int x2), .val (.int x3), .val (.int k1), .val (.int k2), .val (.int md), .val (.int tL), .val (.int t0), .val (.int t1), .val (.int dL), .val (.int d0), .val (.int d1), .val (.int eL), .val (.int e0), .val (.int e1), .val (.ref ra3), .val (.ref ra4), .val (.ref (own_kind w0 w1 w2 w3 w4 k1)), .val (.ref (own_kind w0 w1 w2 w3 w4 k2)), .val (.ref a7), .val (.int got), .val (.int (1 : Int32))]) rfl) ?_
                show own_Go p e below _ (T9.setTop (mkF m 265 #[.val (.int x0), .val (.int x1), .val (.int x2), .val (.int x3), .val (.int k1), .val (.int k2), .val (.int md), .val (.int tL), .val (.int t0), .val (.int t1), .val (.int dL), .val (.int d0), .val (.int d1), .val (.int eL), .val (.int e0), .val (.int e1), .val (.ref ra3), .val (.ref ra4), .val (.ref (own_kind w0 w1 w2 w3 w4 k1)), .val (.ref (own_kind w0 w1 w2 w3 w4 k2)), .val (.ref a7), .val (.int got), .val (.int (1 : Int32))] []))
                rcases hg with ⟨hg, hp⟩ | ⟨hg, hp⟩
                · skip
                  subst hg
                  show own_Go p e below _ (T9.setTop (mkF m 265 #[.val (.int x0), .val (.int x1), .val (.int x2), .val (.int x3), .val (.int k1), .val (.int k2), .val (.int md), .val (.int tL), .val (.int t0), .val (.int t1), .val (.int dL), .val (.int d0), .val (.int d1), .val (.int eL), .val (.int e0), .val (.int e1), .val (.ref ra3), .val (.ref ra4), .val (.ref (own_kind w0 w1 w2 w3 w4 k1)), .val (.ref (own_kind w0 w1 w2 w3 w4 k2)), .val (.ref a7), .val (.int (1 : Int32)), .val (.int (1 : Int32))] []))
                  refine own_go (fun _ => XS.iload X9.here hx rfl (hb hby at_265) rfl) ?_
                  refine own_go (fun _ => XS.iload X9.here hx rfl (hb hby at_267) rfl) ?_
                  refine own_go (fun _ => XS.icmpNo X9.here hx rfl (hb hby at_269) rfl (XT.ii_ne_f rfl)) ?_
                  refine own_go (fun _ => XS.iconst X9.here hx rfl (hb hby at_272)) ?_
                  show own_Go p e below _ (T9.setTop (mkF m 273 #[.val (.int x0), .val (.int x1), .val (.int x2), .val (.int x3), .val (.int k1), .val (.int k2), .val (.int md), .val (.int tL), .val (.int t0), .val (.int t1), .val (.int dL), .val (.int d0), .val (.int d1), .val (.int eL), .val (.int e0), .val (.int e1), .val (.ref ra3), .val (.ref ra4), .val (.ref (own_kind w0 w1 w2 w3 w4 k1)), .val (.ref (own_kind w0 w1 w2 w3 w4 k2)), .val (.ref a7), .val (.int (1 : Int32)), .val (.int (1 : Int32))] [(.int (1 : Int32))]))
                  refine own_go (fun _ => XS.goto X9.here hx rfl (pc0 := 273) (pc' := 277) rfl (hb hby at_273) (by decide) (by decide)) ?_
                  exact own_iretM X9 hx hlk hret (Or.inr (Or.inl rfl)) rfl (hb hby at_277) hS4 hkE (by decide) (by decide) ⟨rfl, N8⟩
                · skip
                  exact absurd ⟨c1, c2, Or.inr c4, Or.inr c6⟩ hp
              · skip
                refine own_go (fun _ => XS.icmpYes X9.here hx rfl (pc0 := 255) (pc' := 262) rfl (hb hby at_255) rfl (XT.ii_ne_t c6) (by decide) (by decide)) ?_
                refine own_go (fun _ => XS.iconst X9.here hx rfl (hb hby at_262)) ?_
                refine own_go (fun _ => XS.istore X9.here hx rfl (hb hby at_263) rfl (l' := #[.val (.int x0), .val (.int x1), .val (.int x2), .val (.int x3), .val (.int k1), .val (.int k2), .val (.int md), .val (.int tL), .val (.int t0), .val (.int t1), .val (.int dL), .val (.int d0), .val (.int d1), .val (.int eL), .val (.int e0), .val (.int e1), .val (.ref ra3), .val (.ref ra4), .val (.ref (own_kind w0 w1 w2 w3 w4 k1)), .val (.ref (own_kind w0 w1 w2 w3 w4 k2)), .val (.ref a7), .val (.int got), .val (.int (0 : Int32))]) rfl) ?_
                show own_Go p e below _ (T9.setTop (mkF m 265 #[.val (.int x0), .val (.int x1), .val (.int x2), .val (.int x3), .val (.int k1), .val (.int k2), .val (.int md), .val (.int tL), .val (.int t0), .val (.int t1), .val (.int dL), .val (.int d0), .val (.int d1), .val (.int eL), .val (.int e0), .val (.int e1), .val (.ref ra3), .val (.ref ra4), .val (.ref (own_kind w0 w1 w2 w3 w4 k1)), .val (.ref (own_kind w0 w1 w2 w3 w4 k2)), .val (.ref a7), .val (.int got), .val (.int (0 : Int32))] []))
                rcases hg with ⟨hg, hp⟩ | ⟨hg, hp⟩
                · skip
                  exact absurd hp.2.2.2 (fun z => z.elim c5 c6)
                · skip
                  subst hg
                  show own_Go p e below _ (T9.setTop (mkF m 265 #[.val (.int x0), .val (.int x1), .val (.int x2), .val (.int x3), .val (.int k1), .val (.int k2), .val (.int md), .val (.int tL), .val (.int t0), .val (.int t1), .val (.int dL), .val (.int d0), .val (.int d1), .val (.int eL), .val (.int e0), .val (.int e1), .val (.ref ra3), .val (.ref ra4), .val (.ref (own_kind w0 w1 w2 w3 w4 k1)), .val (.ref (own_kind w0 w1 w2 w3 w4 k2)), .val (.ref a7), .val (.int (0 : Int32)), .val (.int (0 : Int32))] []))
                  refine own_go (fun _ => XS.iload X9.here hx rfl (hb hby at_265) rfl) ?_
                  refine own_go (fun _ => XS.iload X9.here hx rfl (hb hby at_267) rfl) ?_
                  refine own_go (fun _ => XS.icmpNo X9.here hx rfl (hb hby at_269) rfl (XT.ii_ne_f rfl)) ?_
                  refine own_go (fun _ => XS.iconst X9.here hx rfl (hb hby at_272)) ?_
                  show own_Go p e below _ (T9.setTop (mkF m 273 #[.val (.int x0), .val (.int x1), .val (.int x2), .val (.int x3), .val (.int k1), .val (.int k2), .val (.int md), .val (.int tL), .val (.int t0), .val (.int t1), .val (.int dL), .val (.int d0), .val (.int d1), .val (.int eL), .val (.int e0), .val (.int e1), .val (.ref ra3), .val (.ref ra4), .val (.ref (own_kind w0 w1 w2 w3 w4 k1)), .val (.ref (own_kind w0 w1 w2 w3 w4 k2)), .val (.ref a7), .val (.int (0 : Int32)), .val (.int (0 : Int32))] [(.int (1 : Int32))]))
                  refine own_go (fun _ => XS.goto X9.here hx rfl (pc0 := 273) (pc' := 277) rfl (hb hby at_273) (by decide) (by decide)) ?_
                  exact own_iretM X9 hx hlk hret (Or.inr (Or.inl rfl)) rfl (hb hby at_277) hS4 hkE (by decide) (by decide) ⟨rfl, N8⟩
          · skip
            refine own_go (fun _ => XS.icmpYes X9.here hx rfl (pc0 := 242) (pc' := 262) rfl (hb hby at_242) rfl (XT.ii_ne_t c4) (by decide) (by decide)) ?_
            refine own_go (fun _ => XS.iconst X9.here hx rfl (hb hby at_262)) ?_
            refine own_go (fun _ => XS.istore X9.here hx rfl (hb hby at_263) rfl (l' := #[.val (.int x0), .val (.int x1), .val (.int x2), .val (.int x3), .val (.int k1), .val (.int k2), .val (.int md), .val (.int tL), .val (.int t0), .val (.int t1), .val (.int dL), .val (.int d0), .val (.int d1), .val (.int eL), .val (.int e0), .val (.int e1), .val (.ref ra3), .val (.ref ra4), .val (.ref (own_kind w0 w1 w2 w3 w4 k1)), .val (.ref (own_kind w0 w1 w2 w3 w4 k2)), .val (.ref a7), .val (.int got), .val (.int (0 : Int32))]) rfl) ?_
            show own_Go p e below _ (T9.setTop (mkF m 265 #[.val (.int x0), .val (.int x1), .val (.int x2), .val (.int x3), .val (.int k1), .val (.int k2), .val (.int md), .val (.int tL), .val (.int t0), .val (.int t1), .val (.int dL), .val (.int d0), .val (.int d1), .val (.int eL), .val (.int e0), .val (.int e1), .val (.ref ra3), .val (.ref ra4), .val (.ref (own_kind w0 w1 w2 w3 w4 k1)), .val (.ref (own_kind w0 w1 w2 w3 w4 k2)), .val (.ref a7), .val (.int got), .val (.int (0 : Int32))] []))
            rcases hg with ⟨hg, hp⟩ | ⟨hg, hp⟩
            · skip
              exact absurd hp.2.2.1 (fun z => z.elim c3 c4)
            · skip
              subst hg
              show own_Go p e below _ (T9.setTop (mkF m 265 #[.val (.int x0), .val (.int x1), .val (.int x2), .val (.int x3), .val (.int k1), .val (.int k2), .val (.int md), .val (.int tL), .val (.int t0), .val (.int t1), .val (.int dL), .val (.int d0), .val (.int d1), .val (.int eL), .val (.int e0), .val (.int e1), .val (.ref ra3), .val (.ref ra4), .val (.ref (own_kind w0 w1 w2 w3 w4 k1)), .val (.ref (own_kind w0 w1 w2 w3 w4 k2)), .val (.ref a7), .val (.int (0 : Int32)), .val (.int (0 : Int32))] []))
              refine own_go (fun _ => XS.iload X9.here hx rfl (hb hby at_265) rfl) ?_
              refine own_go (fun _ => XS.iload X9.here hx rfl (hb hby at_267) rfl) ?_
              refine own_go (fun _ => XS.icmpNo X9.here hx rfl (hb hby at_269) rfl (XT.ii_ne_f rfl)) ?_
              refine own_go (fun _ => XS.iconst X9.here hx rfl (hb hby at_272)) ?_
              show own_Go p e below _ (T9.setTop (mkF m 273 #[.val (.int x0), .val (.int x1), .val (.int x2), .val (.int x3), .val (.int k1), .val (.int k2), .val (.int md), .val (.int tL), .val (.int t0), .val (.int t1), .val (.int dL), .val (.int d0), .val (.int d1), .val (.int eL), .val (.int e0), .val (.int e1), .val (.ref ra3), .val (.ref ra4), .val (.ref (own_kind w0 w1 w2 w3 w4 k1)), .val (.ref (own_kind w0 w1 w2 w3 w4 k2)), .val (.ref a7), .val (.int (0 : Int32)), .val (.int (0 : Int32))] [(.int (1 : Int32))]))
              refine own_go (fun _ => XS.goto X9.here hx rfl (pc0 := 273) (pc' := 277) rfl (hb hby at_273) (by decide) (by decide)) ?_
              exact own_iretM X9 hx hlk hret (Or.inr (Or.inl rfl)) rfl (hb hby at_277) hS4 hkE (by decide) (by decide) ⟨rfl, N8⟩
      · skip
        refine own_go (fun _ => XS.icmpYes X9.here hx rfl (pc0 := 229) (pc' := 262) rfl (hb hby at_229) rfl (XT.ii_ne_t c2) (by decide) (by decide)) ?_
        refine own_go (fun _ => XS.iconst X9.here hx rfl (hb hby at_262)) ?_
        refine own_go (fun _ => XS.istore X9.here hx rfl (hb hby at_263) rfl (l' := #[.val (.int x0), .val (.int x1), .val (.int x2), .val (.int x3), .val (.int k1), .val (.int k2), .val (.int md), .val (.int tL), .val (.int t0), .val (.int t1), .val (.int dL), .val (.int d0), .val (.int d1), .val (.int eL), .val (.int e0), .val (.int e1), .val (.ref ra3), .val (.ref ra4), .val (.ref (own_kind w0 w1 w2 w3 w4 k1)), .val (.ref (own_kind w0 w1 w2 w3 w4 k2)), .val (.ref a7), .val (.int got), .val (.int (0 : Int32))]) rfl) ?_
        show own_Go p e below _ (T9.setTop (mkF m 265 #[.val (.int x0), .val (.int x1), .val (.int x2), .val (.int x3), .val (.int k1), .val (.int k2), .val (.int md), .val (.int tL), .val (.int t0), .val (.int t1), .val (.int dL), .val (.int d0), .val (.int d1), .val (.int eL), .val (.int e0), .val (.int e1), .val (.ref ra3), .val (.ref ra4), .val (.ref (own_kind w0 w1 w2 w3 w4 k1)), .val (.ref (own_kind w0 w1 w2 w3 w4 k2)), .val (.ref a7), .val (.int got), .val (.int (0 : Int32))] []))
        rcases hg with ⟨hg, hp⟩ | ⟨hg, hp⟩
        · skip
          exact absurd hp.2.1 c2
        · skip
          subst hg
          show own_Go p e below _ (T9.setTop (mkF m 265 #[.val (.int x0), .val (.int x1), .val (.int x2), .val (.int x3), .val (.int k1), .val (.int k2), .val (.int md), .val (.int tL), .val (.int t0), .val (.int t1), .val (.int dL), .val (.int d0), .val (.int d1), .val (.int eL), .val (.int e0), .val (.int e1), .val (.ref ra3), .val (.ref ra4), .val (.ref (own_kind w0 w1 w2 w3 w4 k1)), .val (.ref (own_kind w0 w1 w2 w3 w4 k2)), .val (.ref a7), .val (.int (0 : Int32)), .val (.int (0 : Int32))] []))
          refine own_go (fun _ => XS.iload X9.here hx rfl (hb hby at_265) rfl) ?_
          refine own_go (fun _ => XS.iload X9.here hx rfl (hb hby at_267) rfl) ?_
          refine own_go (fun _ => XS.icmpNo X9.here hx rfl (hb hby at_269) rfl (XT.ii_ne_f rfl)) ?_
          refine own_go (fun _ => XS.iconst X9.here hx rfl (hb hby at_272)) ?_
          show own_Go p e below _ (T9.setTop (mkF m 273 #[.val (.int x0), .val (.int x1), .val (.int x2), .val (.int x3), .val (.int k1), .val (.int k2), .val (.int md), .val (.int tL), .val (.int t0), .val (.int t1), .val (.int dL), .val (.int d0), .val (.int d1), .val (.int eL), .val (.int e0), .val (.int e1), .val (.ref ra3), .val (.ref ra4), .val (.ref (own_kind w0 w1 w2 w3 w4 k1)), .val (.ref (own_kind w0 w1 w2 w3 w4 k2)), .val (.ref a7), .val (.int (0 : Int32)), .val (.int (0 : Int32))] [(.int (1 : Int32))]))
          refine own_go (fun _ => XS.goto X9.here hx rfl (pc0 := 273) (pc' := 277) rfl (hb hby at_273) (by decide) (by decide)) ?_
          exact own_iretM X9 hx hlk hret (Or.inr (Or.inl rfl)) rfl (hb hby at_277) hS4 hkE (by decide) (by decide) ⟨rfl, N8⟩
    · skip
      refine own_go (fun _ => XS.icmpYes X9.here hx rfl (pc0 := 222) (pc' := 262) rfl (hb hby at_222) rfl (XT.ii_ne_t c1) (by decide) (by decide)) ?_
      refine own_go (fun _ => XS.iconst X9.here hx rfl (hb hby at_262)) ?_
      refine own_go (fun _ => XS.istore X9.here hx rfl (hb hby at_263) rfl (l' := #[.val (.int x0), .val (.int x1), .val (.int x2), .val (.int x3), .val (.int k1), .val (.int k2), .val (.int md), .val (.int tL), .val (.int t0), .val (.int t1), .val (.int dL), .val (.int d0), .val (.int d1), .val (.int eL), .val (.int e0), .val (.int e1), .val (.ref ra3), .val (.ref ra4), .val (.ref (own_kind w0 w1 w2 w3 w4 k1)), .val (.ref (own_kind w0 w1 w2 w3 w4 k2)), .val (.ref a7), .val (.int got), .val (.int (0 : Int32))]) rfl) ?_
      show own_Go p e below _ (T9.setTop (mkF m 265 #[.val (.int x0), .val (.int x1), .val (.int x2), .val (.int x3), .val (.int k1), .val (.int k2), .val (.int md), .val (.int tL), .val (.int t0), .val (.int t1), .val (.int dL), .val (.int d0), .val (.int d1), .val (.int eL), .val (.int e0), .val (.int e1), .val (.ref ra3), .val (.ref ra4), .val (.ref (own_kind w0 w1 w2 w3 w4 k1)), .val (.ref (own_kind w0 w1 w2 w3 w4 k2)), .val (.ref a7), .val (.int got), .val (.int (0 : Int32))] []))
      rcases hg with ⟨hg, hp⟩ | ⟨hg, hp⟩
      · skip
        exact absurd hp.1 c1
      · skip
        subst hg
        show own_Go p e below _ (T9.setTop (mkF m 265 #[.val (.int x0), .val (.int x1), .val (.int x2), .val (.int x3), .val (.int k1), .val (.int k2), .val (.int md), .val (.int tL), .val (.int t0), .val (.int t1), .val (.int dL), .val (.int d0), .val (.int d1), .val (.int eL), .val (.int e0), .val (.int e1), .val (.ref ra3), .val (.ref ra4), .val (.ref (own_kind w0 w1 w2 w3 w4 k1)), .val (.ref (own_kind w0 w1 w2 w3 w4 k2)), .val (.ref a7), .val (.int (0 : Int32)), .val (.int (0 : Int32))] []))
        refine own_go (fun _ => XS.iload X9.here hx rfl (hb hby at_265) rfl) ?_
        refine own_go (fun _ => XS.iload X9.here hx rfl (hb hby at_267) rfl) ?_
        refine own_go (fun _ => XS.icmpNo X9.here hx rfl (hb hby at_269) rfl (XT.ii_ne_f rfl)) ?_
        refine own_go (fun _ => XS.iconst X9.here hx rfl (hb hby at_272)) ?_
        show own_Go p e below _ (T9.setTop (mkF m 273 #[.val (.int x0), .val (.int x1), .val (.int x2), .val (.int x3), .val (.int k1), .val (.int k2), .val (.int md), .val (.int tL), .val (.int t0), .val (.int t1), .val (.int dL), .val (.int d0), .val (.int d1), .val (.int eL), .val (.int e0), .val (.int e1), .val (.ref ra3), .val (.ref ra4), .val (.ref (own_kind w0 w1 w2 w3 w4 k1)), .val (.ref (own_kind w0 w1 w2 w3 w4 k2)), .val (.ref a7), .val (.int (0 : Int32)), .val (.int (0 : Int32))] [(.int (1 : Int32))]))
        refine own_go (fun _ => XS.goto X9.here hx rfl (pc0 := 273) (pc' := 277) rfl (hb hby at_273) (by decide) (by decide)) ?_
        exact own_iretM X9 hx hlk hret (Or.inr (Or.inl rfl)) rfl (hb hby at_277) hS4 hkE (by decide) (by decide) ⟨rfl, N8⟩
  show own_Go p e below _ (T2.setTop (mkF m 83 #[.val (.int x0), .val (.int x1), .val (.int x2), .val (.int x3), .val (.int k1), .val (.int k2), .val (.int md), .val (.int tL), .val (.int t0), .val (.int t1), .val (.int dL), .val (.int d0), .val (.int d1), .unset, .unset, .unset, .unset, .unset, .unset, .unset, .unset, .unset, .unset] []))
  refine own_go (fun _ => XS.iload X2.here hx rfl (hb hby at_83) rfl) ?_
  by_cases m1 : md = (0 : Int32)
  · skip
    refine own_go (fun _ => XS.ifNo X2.here hx rfl (hb hby at_85) rfl (XT.i0_ne_f m1)) ?_
    refine own_go (fun _ => XS.iload X2.here hx rfl (hb hby at_88) rfl) ?_
    refine own_go (fun _ => XS.istore X2.here hx rfl (hb hby at_90) rfl (l' := #[.val (.int x0), .val (.int x1), .val (.int x2), .val (.int x3), .val (.int k1), .val (.int k2), .val (.int md), .val (.int tL), .val (.int t0), .val (.int t1), .val (.int dL), .val (.int d0), .val (.int d1), .val (.int dL), .unset, .unset, .unset, .unset, .unset, .unset, .unset, .unset, .unset]) rfl) ?_
    show own_Go p e below _ (T2.setTop (mkF m 92 #[.val (.int x0), .val (.int x1), .val (.int x2), .val (.int x3), .val (.int k1), .val (.int k2), .val (.int md), .val (.int tL), .val (.int t0), .val (.int t1), .val (.int dL), .val (.int d0), .val (.int d1), .val (.int dL), .unset, .unset, .unset, .unset, .unset, .unset, .unset, .unset, .unset] []))
    refine own_go (fun _ => XS.iload X2.here hx rfl (hb hby at_92) rfl) ?_
    refine own_go (fun _ => XS.istore X2.here hx rfl (hb hby at_94) rfl (l' := #[.val (.int x0), .val (.int x1), .val (.int x2), .val (.int x3), .val (.int k1), .val (.int k2), .val (.int md), .val (.int tL), .val (.int t0), .val (.int t1), .val (.int dL), .val (.int d0), .val (.int d1), .val (.int dL), .val (.int d0), .unset, .unset, .unset, .unset, .unset, .unset, .unset, .unset]) rfl) ?_
    refine own_go (fun _ => XS.iload X2.here hx rfl (hb hby at_96) rfl) ?_
    refine own_go (fun _ => XS.istore X2.here hx rfl (hb hby at_98) rfl (l' := #[.val (.int x0), .val (.int x1), .val (.int x2), .val (.int x3), .val (.int k1), .val (.int k2), .val (.int md), .val (.int tL), .val (.int t0), .val (.int t1), .val (.int dL), .val (.int d0), .val (.int d1), .val (.int dL), .val (.int d0), .val (.int d1), .unset, .unset, .unset, .unset, .unset, .unset, .unset]) rfl) ?_
    show own_Go p e below _ (T2.setTop (mkF m 100 #[.val (.int x0), .val (.int x1), .val (.int x2), .val (.int x3), .val (.int k1), .val (.int k2), .val (.int md), .val (.int tL), .val (.int t0), .val (.int t1), .val (.int dL), .val (.int d0), .val (.int d1), .val (.int dL), .val (.int d0), .val (.int d1), .unset, .unset, .unset, .unset, .unset, .unset, .unset] []))
    refine own_go (fun _ => XS.goto X2.here hx rfl (pc0 := 100) (pc' := 157) rfl (hb hby at_100) (by decide) (by decide)) ?_
    show own_Go p e below _ (T2.setTop (mkF m 157 #[.val (.int x0), .val (.int x1), .val (.int x2), .val (.int x3), .val (.int k1), .val (.int k2), .val (.int md), .val (.int tL), .val (.int t0), .val (.int t1), .val (.int dL), .val (.int d0), .val (.int d1), .val (.int dL), .val (.int d0), .val (.int d1), .unset, .unset, .unset, .unset, .unset, .unset, .unset] []))
    exact G157 dL d0 d1 r_dL r_d0 r_d1
  · skip
    refine own_go (fun _ => XS.ifYes X2.here hx rfl (pc0 := 85) (pc' := 103) rfl (hb hby at_85) rfl (XT.i0_ne_t m1) (by decide) (by decide)) ?_
    refine own_go (fun _ => XS.iload X2.here hx rfl (hb hby at_103) rfl) ?_
    refine own_go (fun _ => XS.iconst X2.here hx rfl (hb hby at_105)) ?_
    by_cases m2 : md = (1 : Int32)
    · skip
      refine own_go (fun _ => XS.icmpNo X2.here hx rfl (hb hby at_106) rfl (XT.ii_ne_f m2)) ?_
      show own_Go p e below _ (T2.setTop (mkF m 109 #[.val (.int x0), .val (.int x1), .val (.int x2), .val (.int x3), .val (.int k1), .val (.int k2), .val (.int md), .val (.int tL), .val (.int t0), .val (.int t1), .val (.int dL), .val (.int d0), .val (.int d1), .unset, .unset, .unset, .unset, .unset, .unset, .unset, .unset, .unset, .unset] []))
      refine own_go (fun _ => XS.iload X2.here hx rfl (hb hby at_109) rfl) ?_
      refine own_go (fun _ => XS.istore X2.here hx rfl (hb hby at_111) rfl (l' := #[.val (.int x0), .val (.int x1), .val (.int x2), .val (.int x3), .val (.int k1), .val (.int k2), .val (.int md), .val (.int tL), .val (.int t0), .val (.int t1), .val (.int dL), .val (.int d0), .val (.int d1), .val (.int tL), .unset, .unset, .unset, .unset, .unset, .unset, .unset, .unset, .unset]) rfl) ?_
      refine own_go (fun _ => XS.iload X2.here hx rfl (hb hby at_113) rfl) ?_
      refine own_go (fun _ => XS.istore X2.here hx rfl (hb hby at_115) rfl (l' := #[.val (.int x0), .val (.int x1), .val (.int x2), .val (.int x3), .val (.int k1), .val (.int k2), .val (.int md), .val (.int tL), .val (.int t0), .val (.int t1), .val (.int dL), .val (.int d0), .val (.int d1), .val (.int tL), .val (.int t0), .unset, .unset, .unset, .unset, .unset, .unset, .unset, .unset]) rfl) ?_
      show own_Go p e below _ (T2.setTop (mkF m 117 #[.val (.int x0), .val (.int x1), .val (.int x2), .val (.int x3), .val (.int k1), .val (.int k2), .val (.int md), .val (.int tL), .val (.int t0), .val (.int t1), .val (.int dL), .val (.int d0), .val (.int d1), .val (.int tL), .val (.int t0), .unset, .unset, .unset, .unset, .unset, .unset, .unset, .unset] []))
      refine own_go (fun _ => XS.iload X2.here hx rfl (hb hby at_117) rfl) ?_
      refine own_go (fun _ => XS.istore X2.here hx rfl (hb hby at_119) rfl (l' := #[.val (.int x0), .val (.int x1), .val (.int x2), .val (.int x3), .val (.int k1), .val (.int k2), .val (.int md), .val (.int tL), .val (.int t0), .val (.int t1), .val (.int dL), .val (.int d0), .val (.int d1), .val (.int tL), .val (.int t0), .val (.int t1), .unset, .unset, .unset, .unset, .unset, .unset, .unset]) rfl) ?_
      refine own_go (fun _ => XS.goto X2.here hx rfl (pc0 := 121) (pc' := 157) rfl (hb hby at_121) (by decide) (by decide)) ?_
      show own_Go p e below _ (T2.setTop (mkF m 157 #[.val (.int x0), .val (.int x1), .val (.int x2), .val (.int x3), .val (.int k1), .val (.int k2), .val (.int md), .val (.int tL), .val (.int t0), .val (.int t1), .val (.int dL), .val (.int d0), .val (.int d1), .val (.int tL), .val (.int t0), .val (.int t1), .unset, .unset, .unset, .unset, .unset, .unset, .unset] []))
      exact G157 tL t0 t1 r_tL r_t0 r_t1
    · skip
      refine own_go (fun _ => XS.icmpYes X2.here hx rfl (pc0 := 106) (pc' := 124) rfl (hb hby at_106) rfl (XT.ii_ne_t m2) (by decide) (by decide)) ?_
      refine own_go (fun _ => XS.iload X2.here hx rfl (hb hby at_124) rfl) ?_
      refine own_go (fun _ => XS.iconst X2.here hx rfl (hb hby at_126)) ?_
      by_cases m3 : md = (2 : Int32)
      · skip
        refine own_go (fun _ => XS.icmpNo X2.here hx rfl (hb hby at_127) rfl (XT.ii_ne_f m3)) ?_
        show own_Go p e below _ (T2.setTop (mkF m 130 #[.val (.int x0), .val (.int x1), .val (.int x2), .val (.int x3), .val (.int k1), .val (.int k2), .val (.int md), .val (.int tL), .val (.int t0), .val (.int t1), .val (.int dL), .val (.int d0), .val (.int d1), .unset, .unset, .unset, .unset, .unset, .unset, .unset, .unset, .unset, .unset] []))
        refine own_go (fun _ => XS.iload X2.here hx rfl (hb hby at_130) rfl) ?_
        refine own_go (fun _ => XS.istore X2.here hx rfl (hb hby at_132) rfl (l' := #[.val (.int x0), .val (.int x1), .val (.int x2), .val (.int x3), .val (.int k1), .val (.int k2), .val (.int md), .val (.int tL), .val (.int t0), .val (.int t1), .val (.int dL), .val (.int d0), .val (.int d1), .val (.int dL), .unset, .unset, .unset, .unset, .unset, .unset, .unset, .unset, .unset]) rfl) ?_
        refine own_go (fun _ => XS.iload X2.here hx rfl (hb hby at_134) rfl) ?_
        refine own_go (fun _ => XS.istore X2.here hx rfl (hb hby at_136) rfl (l' := #[.val (.int x0), .val (.int x1), .val (.int x2), .val (.int x3), .val (.int k1), .val (.int k2), .val (.int md), .val (.int tL), .val (.int t0), .val (.int t1), .val (.int dL), .val (.int d0), .val (.int d1), .val (.int dL), .val (.int t0), .unset, .unset, .unset, .unset, .unset, .unset, .unset, .unset]) rfl) ?_
        show own_Go p e below _ (T2.setTop (mkF m 138 #[.val (.int x0), .val (.int x1), .val (.int x2), .val (.int x3), .val (.int k1), .val (.int k2), .val (.int md), .val (.int tL), .val (.int t0), .val (.int t1), .val (.int dL), .val (.int d0), .val (.int d1), .val (.int dL), .val (.int t0), .unset, .unset, .unset, .unset, .unset, .unset, .unset, .unset] []))
        refine own_go (fun _ => XS.iload X2.here hx rfl (hb hby at_138) rfl) ?_
        refine own_go (fun _ => XS.istore X2.here hx rfl (hb hby at_140) rfl (l' := #[.val (.int x0), .val (.int x1), .val (.int x2), .val (.int x3), .val (.int k1), .val (.int k2), .val (.int md), .val (.int tL), .val (.int t0), .val (.int t1), .val (.int dL), .val (.int d0), .val (.int d1), .val (.int dL), .val (.int t0), .val (.int t1), .unset, .unset, .unset, .unset, .unset, .unset, .unset]) rfl) ?_
        refine own_go (fun _ => XS.goto X2.here hx rfl (pc0 := 142) (pc' := 157) rfl (hb hby at_142) (by decide) (by decide)) ?_
        show own_Go p e below _ (T2.setTop (mkF m 157 #[.val (.int x0), .val (.int x1), .val (.int x2), .val (.int x3), .val (.int k1), .val (.int k2), .val (.int md), .val (.int tL), .val (.int t0), .val (.int t1), .val (.int dL), .val (.int d0), .val (.int d1), .val (.int dL), .val (.int t0), .val (.int t1), .unset, .unset, .unset, .unset, .unset, .unset, .unset] []))
        exact G157 dL t0 t1 r_dL r_t0 r_t1
      · skip
        refine own_go (fun _ => XS.icmpYes X2.here hx rfl (pc0 := 127) (pc' := 145) rfl (hb hby at_127) rfl (XT.ii_ne_t m3) (by decide) (by decide)) ?_
        refine own_go (fun _ => XS.iload X2.here hx rfl (hb hby at_145) rfl) ?_
        refine own_go (fun _ => XS.istore X2.here hx rfl (hb hby at_147) rfl (l' := #[.val (.int x0), .val (.int x1), .val (.int x2), .val (.int x3), .val (.int k1), .val (.int k2), .val (.int md), .val (.int tL), .val (.int t0), .val (.int t1), .val (.int dL), .val (.int d0), .val (.int d1), .val (.int tL), .unset, .unset, .unset, .unset, .unset, .unset, .unset, .unset, .unset]) rfl) ?_
        refine own_go (fun _ => XS.iload X2.here hx rfl (hb hby at_149) rfl) ?_
        show own_Go p e below _ (T2.setTop (mkF m 151 #[.val (.int x0), .val (.int x1), .val (.int x2), .val (.int x3), .val (.int k1), .val (.int k2), .val (.int md), .val (.int tL), .val (.int t0), .val (.int t1), .val (.int dL), .val (.int d0), .val (.int d1), .val (.int tL), .unset, .unset, .unset, .unset, .unset, .unset, .unset, .unset, .unset] [(.int t0)]))
        refine own_go (fun _ => XS.istore X2.here hx rfl (hb hby at_151) rfl (l' := #[.val (.int x0), .val (.int x1), .val (.int x2), .val (.int x3), .val (.int k1), .val (.int k2), .val (.int md), .val (.int tL), .val (.int t0), .val (.int t1), .val (.int dL), .val (.int d0), .val (.int d1), .val (.int tL), .val (.int t0), .unset, .unset, .unset, .unset, .unset, .unset, .unset, .unset]) rfl) ?_
        refine own_go (fun _ => XS.iload X2.here hx rfl (hb hby at_153) rfl) ?_
        refine own_go (fun _ => XS.istore X2.here hx rfl (hb hby at_155) rfl (l' := #[.val (.int x0), .val (.int x1), .val (.int x2), .val (.int x3), .val (.int k1), .val (.int k2), .val (.int md), .val (.int tL), .val (.int t0), .val (.int t1), .val (.int dL), .val (.int d0), .val (.int d1), .val (.int tL), .val (.int t0), .val (.int d1), .unset, .unset, .unset, .unset, .unset, .unset, .unset]) rfl) ?_
        show own_Go p e below _ (T2.setTop (mkF m 157 #[.val (.int x0), .val (.int x1), .val (.int x2), .val (.int x3), .val (.int k1), .val (.int k2), .val (.int md), .val (.int tL), .val (.int t0), .val (.int t1), .val (.int dL), .val (.int d0), .val (.int d1), .val (.int tL), .val (.int t0), .val (.int d1), .unset, .unset, .unset, .unset, .unset, .unset, .unset] []))
        exact G157 tL t0 d1 r_tL r_t0 r_d1
set_option maxRecDepth 65536 in
set_option maxHeartbeats 40000000 in
theorem comes_1 {Post : Tables → Env → Array Value → State → Outcome → State → Prop} (hpost : ∀ tb e args s v u, (limb_1_1.after args s (.returned v) u = true ∧ limb_1_2.after args s (.returned v) u = true ∧ True) → ReturnedEndW s (.returned v) u (Jvm.fieldLocs frame_1_writes args s ++ Jvm.arrayLocs frame_1_arrays args s ++ Jvm.staticLocs frame_1_statics s) 24 1152 → Post tb e args s (.returned v) u) :
    ArmFor flags0 classFile x code maxLocals ret World_1 tables_1 room_1 Calls_1 rest_1 Pre_1 Post := by
  intro l hfl _ _ p e ha hc hk s m args below hf hA hF happ hP
  obtain ⟨hcalls, hrest, hpre⟩ := hP
  obtain ⟨-, -, -, hnamed, -, -, -, hat⟩ := (Spec.applies_iff hf).mp happ
  obtain ⟨hg, hn⟩ := and_e (Cond.before_iff.mp (show (Jvm.Cond.and given_1 narrow_1).before args s = true from hpre))
  obtain ⟨gc, gr0⟩ := and_e hg
  obtain ⟨g0, gr1⟩ := and_e gr0
  obtain ⟨g1, gr2⟩ := and_e gr1
  obtain ⟨g2, gr3⟩ := and_e gr2
  obtain ⟨w0, w1, w2, w3, rfl⟩ : ∃ w0 w1 w2 w3 : Value, args = #[w0, w1, w2, w3] := by
    have hs : args.size = 4 := by simpa [Cond.value, given_1] using gc
    obtain ⟨L⟩ := args
    match L, hs with
    | [w0, w1, w2, w3], _ => exact ⟨w0, w1, w2, w3, rfl⟩
  have hw := fun d (hd : d ∈ tables_1) => atoms_spec (ws := Jvm.Cond.code x code maxLocals ret :: tables_1) hat d (List.mem_cons_of_mem _ hd)
  have hfit : Fit s := fun {y c} hc i hi => by
    obtain ⟨ha, rfl⟩ := Array.getElem?_eq_some_iff.mp hc
    have q := List.all_eq_true.mp ((Array.all_eq_true_iff_forall_mem.mp hF) _ (Array.getElem_mem ha)) i (List.mem_range.mpr hi)
    simpa [Array.getElem?_eq_getElem hi] using q
  obtain ⟨i0, ei0⟩ := is_v g0
  obtain rfl : w0 = (.int i0) := Option.some.inj ei0
  obtain ⟨i1, ei1⟩ := is_v g1
  obtain rfl : w1 = (.int i1) := Option.some.inj ei1
  obtain ⟨i2, ei2⟩ := is_v g2
  obtain rfl : w2 = (.int i2) := Option.some.inj ei2
  obtain ⟨i3, ei3⟩ := is_v gr3
  obtain rfl : w3 = (.int i3) := Option.some.inj ei3
  obtain ⟨n0, m0⟩ := and_e hn
  obtain ⟨n1, m1⟩ := and_e m0
  obtain ⟨n2, m2⟩ := and_e m1
  obtain ⟨n3, m3⟩ := and_e m2
  obtain ⟨n4, m4⟩ := and_e m3
  obtain ⟨n5, m5⟩ := and_e m4
  obtain ⟨n6, m6⟩ := and_e m5
  obtain ⟨n7, m7⟩ := and_e m6
  obtain ⟨n8, m8⟩ := and_e m7
  obtain ⟨w0, ew0⟩ := exa_v n0
  have ks0 := Sta.start ew0 (Or.inr ⟨(hw _ (List.mem_of_getElem? (i := 41) rfl)), (hw _ (List.mem_of_getElem? (i := 42) rfl))⟩)
  have eo0 : s.fieldOf? w0 "java/lang/Enum" "ordinal" "I" = some (.int 0) := by
    rw [← fld_at ew0]; exact Cond.eq_int (Cond.before_iff.mpr n3) rfl
  obtain ⟨w1, ew1⟩ := exa_v n6
  have ks1 := Sta.start ew1 (Or.inr ⟨(hw _ (List.mem_of_getElem? (i := 41) rfl)), (hw _ (List.mem_of_getElem? (i := 84) rfl))⟩)
  have eo1 : s.fieldOf? w1 "java/lang/Enum" "ordinal" "I" = some (.int 1) := by
    rw [← fld_at ew1]; exact Cond.eq_int (Cond.before_iff.mpr n7) rfl
  obtain ⟨w2, ew2⟩ := exa_v n1
  have ks2 := Sta.start ew2 (Or.inr ⟨(hw _ (List.mem_of_getElem? (i := 41) rfl)), (hw _ (List.mem_of_getElem? (i := 80) rfl))⟩)
  have eo2 : s.fieldOf? w2 "java/lang/Enum" "ordinal" "I" = some (.int 2) := by
    rw [← fld_at ew2]; exact Cond.eq_int (Cond.before_iff.mpr n2) rfl
  obtain ⟨w3, ew3⟩ := exa_v n8
  have ks3 := Sta.start ew3 (Or.inr ⟨(hw _ (List.mem_of_getElem? (i := 41) rfl)), (hw _ (List.mem_of_getElem? (i := 86) rfl))⟩)
  have eo3 : s.fieldOf? w3 "java/lang/Enum" "ordinal" "I" = some (.int 3) := by
    rw [← fld_at ew3]; exact Cond.eq_int (Cond.before_iff.mpr m8) rfl
  obtain ⟨w4, ew4⟩ := exa_v n4
  have ks4 := Sta.start ew4 (Or.inr ⟨(hw _ (List.mem_of_getElem? (i := 41) rfl)), (hw _ (List.mem_of_getElem? (i := 82) rfl))⟩)
  have eo4 : s.fieldOf? w4 "java/lang/Enum" "ordinal" "I" = some (.int 4) := by
    rw [← fld_at ew4]; exact Cond.eq_int (Cond.before_iff.mpr n5) rfl
  have hw01 : w0 ≠ w1 := fun q => by rw [q, eo1] at eo0; cases eo0
  have hw02 : w0 ≠ w2 := fun q => by rw [q, eo2] at eo0; cases eo0
  have hw03 : w0 ≠ w3 := fun q => by rw [q, eo3] at eo0; cases eo0
  have hw04 : w0 ≠ w4 := fun q => by rw [q, eo4] at eo0; cases eo0
  have hw12 : w1 ≠ w2 := fun q => by rw [q, eo2] at eo1; cases eo1
  have hw13 : w1 ≠ w3 := fun q => by rw [q, eo3] at eo1; cases eo1
  have hw14 : w1 ≠ w4 := fun q => by rw [q, eo4] at eo1; cases eo1
  have hw23 : w2 ≠ w3 := fun q => by rw [q, eo3] at eo2; cases eo2
  have hw24 : w2 ≠ w4 := fun q => by rw [q, eo4] at eo2; cases eo2
  have hw34 : w3 ≠ w4 := fun q => by rw [q, eo4] at eo3; cases eo3
  obtain ⟨r1, q1⟩ := and_e (Cond.before_iff.mp (show rest_1_c.before _ s = true from hrest))
  obtain ⟨r2, q2⟩ := and_e q1
  obtain ⟨r3, q3⟩ := and_e q2
  obtain ⟨zc, ez⟩ := is_v r2
  have cs := Sta.start ez (Or.inl (Cond.before_iff.mpr r1))
  have hzc : ¬ zc = 0 := fun q => by
    have z := not_v r3
    rw [q] at ez
    simp [Cond.value, ez, Term.int_eval] at z
  have hEL : EW s _ own_EL := EW.cons (hw _ (List.mem_of_getElem? (i := 76) rfl)) (by simp) (fun _ hp => nomatch hp)
  have HC : CHv s own_EL s.vm s.heap := CHv.start hEL hcalls.1 (Cond.before_iff.mpr r3) (hw _ (List.mem_of_getElem? (i := 26) rfl)) (hw _ (List.mem_of_getElem? (i := 8) rfl))
  obtain ⟨n, o, h1, h2, h3, _, L, rfl, ⟨rfl, N⟩, hq⟩ := own_main_con l s _ hw i0 i1 i2 i3 w0 w1 w2 w3 w4 zc s.heap ks0 ks1 ks2 ks3 ks4 cs hzc (own_kind_inj hw01 hw02 hw03 hw04 hw12 hw13 hw14 hw23 hw24 hw34) tables_1 p e ha hc hk s m _ below hf ((Spec.applies_iff_loose hf).mp happ).1 ⟨rfl, State.Warmed39.refl s, rfl, HC⟩ trivial
  refine ⟨n, _, h1, h2, h3, hpost _ _ _ _ _ _ ⟨Cond.after_iff.mpr rfl, Cond.after_iff.mpr (eq_i res_at (Term.int_eval (1)) rfl), trivial⟩ ⟨hq.1, hq.2.1, hq.2.2.1, (hq.2.2.2.sift fun y hy => Or.inr (N y hy)).mono (by decide) (by decide)⟩⟩
theorem main_1_1 : Claimed_1_1 := comes_1 fun _ _ _ _ _ _ h hF => ⟨h.1, hF⟩
theorem main_1_2 : Claimed_1_2 := comes_1 fun _ _ _ _ _ _ h hF => ⟨h.2.1, hF⟩
end Jvm.Pilot.@@N@@
namespace Jvm.Pilot.@@N@@
open Jvm Jvm.ClassFile Sem Op Lib Jvm.Free Jvm.Stand Jvm.Pilot.@@N@@.Jvm.D
/-! MADE BY PROGRAM (witnessworld.py) out of the Statement's table words and the real class files: 23 classes; the members and pool entries that the words name. The judged class is class 1, her method 4. -/
namespace start1
open Jvm.ClassFile
def u (s : String) : CpInfo := .utf8 (stringToUtf16 s)
/-- a pool by its gaps: so many unusable entries, then the entry; so many at the end -/
def gap : Nat → List CpInfo → List CpInfo
  | 0, r => r
  | n + 1, r => .unusable :: gap n r
def poolList (es : List (Nat × CpInfo)) (last : Nat) : List CpInfo := es.foldr (fun e r => gap e.1 (e.2 :: r)) (gap last [])
def pool (es : List (Nat × CpInfo)) (last : Nat) : Array CpInfo := ⟨poolList es last⟩
def fileOf (pool : Array CpInfo) (this : Nat) (attrs : Array Attribute := #[]) (ms : Array MethodInfo := #[]) (fl : Nat := 33) (sup : Nat := 0) (ifs : Array Nat := #[]) (fds : Array FieldInfo := #[]) : ClassFile where
  minorVersion := 0
  majorVersion := 65
  constantPool := pool
  accessFlags := fl
  thisClass := this
  superClass := sup
  interfaces := ifs
  fields := fds
  methods := ms
  attributes := attrs
def plain (name : String) (sup : Option ClassId) : Class where
  name := name
  kind := .ordinary
  loader := none
  accessFlags := 33
  super := sup
  interfaces := #[]
  cf := none
  fields := #[]
  methods := #[]
  instanceTypes := #[]
  staticTypes := #[]
  resolved := #[]
  callSites := []
  init := .initialized
  statics := none
  mirror := none

def pool0 : Array CpInfo := pool [(5, u "<init>"), (0, u "()V"), (1, .class_ 10), (1, u "java/lang/Object")] 113

def k0c0 : Code := { maxStack := 0, maxLocals := 1, code := object_method_1_code, exceptionTable := #[], attributes := #[] }
def k0m0 : Method := { name := "<init>", desc := "()V", sig := { parameters := [], returnType := none }, accessFlags := 1, code := some k0c0 }
/-- java/lang/Object -/
def k0 : Class := { plain "java/lang/Object" none with
  accessFlags := 33
  interfaces := #[]
  cf := some (fileOf pool0 8 #[] #[{ accessFlags := 1, nameIndex := 5, descriptorIndex := 6, attributes := #[] }] 33 0 #[] #[])
  fields := #[]
  methods := #[k0m0]
  instanceTypes := #[]
  staticTypes := #[]
  resolved := Array.replicate 124 none
  statics := none }

def pool1 : Array CpInfo := pool [(2, .class_ 4), (1, u "java/lang/Object"), (0, u "<init>"), (0, u "()V"), (0, .fieldref 8 9), (0, .class_ 10), (0, .nameAndType 11 12), (0, u "com/example/secure_model_views/securemodelviews/PolicyTokens$Kind"), (0, u "WORD"), (0, u "Lcom/example/secure_model_views/securemodelviews/PolicyTokens$Kind;"), (0, .fieldref 8 14), (0, .nameAndType 15 12), (0, u "STRING"), (0, .fieldref 8 17), (0, .nameAndType 18 12), (0, u "INTEGER"), (0, .fieldref 8 20), (0, .nameAndType 21 12), (0, u "SYMBOL"), (0, .fieldref 8 23), (0, .nameAndType 24 12), (0, u "END"), (0, .class_ 26), (0, u "java/lang/String"), (0, .methodref 25 28), (0, .nameAndType 5 29), (0, u "([C)V"), (0, .methodref 31 32), (0, .class_ 33), (0, .nameAndType 34 35), (0, u "com/example/secure_model_views/securemodelviews/TokenIsPinLaw"), (0, u "lenOf"), (0, u "(I)I"), (0, .methodref 31 37), (0, .nameAndType 38 39), (0, u "str"), (0, u "(ICC)Ljava/lang/String;"), (0, .methodref 31 41), (0, .nameAndType 42 43), (0, u "kindOf"), (0, u "(I)Lcom/example/secure_model_views/securemodelviews/PolicyTokens$Kind;"), (0, .class_ 45), (0, u "com/example/secure_model_views/securemodelviews/PolicyTokens$Token"), (0, .methodref 44 47), (0, .nameAndType 5 48), (0, u "(Lcom/example/secure_model_views/securemodelviews/PolicyTokens$Kind;Ljava/lang/String;I)V"), (0, .methodref 44 50), (0, .nameAndType 51 52), (0, u "is"), (0, u "(Lcom/example/secure_model_views/securemodelviews/PolicyTokens$Kind;Ljava/lang/String;)Z"), (3, u "law"), (0, u "(IIII)Z")] 7

def k1m0 : Method := { name := "<init>", desc := "()V", sig := { parameters := [], returnType := none }, accessFlags := 1, code := none }
def k1c1 : Code := { maxStack := 2, maxLocals := 1, code := method_2_code, exceptionTable := #[], attributes := #[] }
def k1m1 : Method := { name := "kindOf", desc := "(I)Lcom/example/secure_model_views/securemodelviews/PolicyTokens$Kind;", sig := { parameters := [.int], returnType := some (.object "com/example/secure_model_views/securemodelviews/PolicyTokens$Kind") }, accessFlags := 10, code := some k1c1 }
def k1c2 : Code := { maxStack := 2, maxLocals := 2, code := method_3_code, exceptionTable := #[], attributes := #[] }
def k1m2 : Method := { name := "lenOf", desc := "(I)I", sig := { parameters := [.int], returnType := some .int }, accessFlags := 10, code := some k1c2 }
def k1c3 : Code := { maxStack := 6, maxLocals := 3, code := method_4_code, exceptionTable := #[], attributes := #[] }
def k1m3 : Method := { name := "str", desc := "(ICC)Ljava/lang/String;", sig := { parameters := [.int, .char, .char], returnType := some (.object "java/lang/String") }, accessFlags := 10, code := some k1c3 }
def k1c4 : Code := { maxStack := 5, maxLocals := 23, code := code, exceptionTable := #[], attributes := #[] }
def k1m4 : Method := { name := "law", desc := "(IIII)Z", sig := { parameters := [.int, .int, .int, .int], returnType := some .boolean }, accessFlags := 9, code := some k1c4 }
/-- com/example/secure_model_views/securemodelviews/TokenIsPinLaw -/
def k1 : Class := { plain "com/example/secure_model_views/securemodelviews/TokenIsPinLaw" (some 0) with
  accessFlags := 49
  interfaces := #[]
  cf := some (fileOf pool1 31 #[] #[{ accessFlags := 1, nameIndex := 5, descriptorIndex := 6, attributes := #[] }, { accessFlags := 10, nameIndex := 42, descriptorIndex := 43, attributes := #[] }, { accessFlags := 10, nameIndex := 34, descriptorIndex := 35, attributes := #[] }, { accessFlags := 10, nameIndex := 38, descriptorIndex := 39, attributes := #[] }, { accessFlags := 9, nameIndex := 56, descriptorIndex := 57, attributes := #[] }] 49 2 #[] #[])
  fields := #[]
  methods := #[k1m0, k1m1, k1m2, k1m3, k1m4]
  instanceTypes := #[]
  staticTypes := #[]
  resolved := Array.replicate 65 none
  statics := none }

def pool2 : Array CpInfo := pool [(1, .class_ 2), (0, u "java/io/Serializable"), (0, .class_ 4), (0, u "java/lang/Object")] 2

/-- java/io/Serializable -/
def k2 : Class := { plain "java/io/Serializable" (some 0) with
  accessFlags := 1537
  interfaces := #[]
  cf := some (fileOf pool2 1 #[] #[] 1537 3 #[] #[])
  fields := #[]
  methods := #[]
  instanceTypes := #[]
  staticTypes := #[]
  resolved := Array.replicate 7 none
  statics := none }

def pool3 : Array CpInfo := pool [(1, .class_ 2), (0, u "java/lang/Comparable"), (0, .class_ 4), (0, u "java/lang/Object")] 7

/-- java/lang/Comparable -/
def k3 : Class := { plain "java/lang/Comparable" (some 0) with
  accessFlags := 1537
  interfaces := #[]
  cf := some (fileOf pool3 1 #[] #[] 1537 3 #[] #[])
  fields := #[]
  methods := #[]
  instanceTypes := #[]
  staticTypes := #[]
  resolved := Array.replicate 12 none
  statics := none }

def pool4 : Array CpInfo := pool [(2, .class_ 4), (1, u "java/lang/CharSequence"), (42, .class_ 48), (0, u "java/lang/CharSequence$1CodePointIterator"), (10, .class_ 60), (0, u "java/lang/CharSequence$1CharIterator"), (5, .class_ 67), (0, u "java/lang/Object")] 63

/-- java/lang/CharSequence -/
def k4 : Class := { plain "java/lang/CharSequence" (some 0) with
  accessFlags := 1537
  interfaces := #[]
  cf := some (fileOf pool4 2 #[.nestMembers #[47, 59]] #[] 1537 66 #[] #[])
  fields := #[]
  methods := #[]
  instanceTypes := #[]
  staticTypes := #[]
  resolved := Array.replicate 131 none
  statics := none }

def pool5 : Array CpInfo := pool [(1, .class_ 2), (0, u "java/lang/constant/Constable"), (0, .class_ 4), (0, u "java/lang/Object")] 6

/-- java/lang/constant/Constable -/
def k5 : Class := { plain "java/lang/constant/Constable" (some 0) with
  accessFlags := 1537
  interfaces := #[]
  cf := some (fileOf pool5 1 #[] #[] 1537 3 #[] #[])
  fields := #[]
  methods := #[]
  instanceTypes := #[]
  staticTypes := #[]
  resolved := Array.replicate 11 none
  statics := none }

def pool6 : Array CpInfo := pool [(1, .class_ 2), (0, u "java/lang/constant/ConstantDesc"), (0, .class_ 4), (0, u "java/lang/Object")] 32

/-- java/lang/constant/ConstantDesc -/
def k6 : Class := { plain "java/lang/constant/ConstantDesc" (some 0) with
  accessFlags := 1537
  interfaces := #[]
  cf := some (fileOf pool6 1 #[] #[] 1537 3 #[] #[])
  fields := #[]
  methods := #[]
  instanceTypes := #[]
  staticTypes := #[]
  resolved := Array.replicate 37 none
  statics := none }

def pool7 : Array CpInfo := pool [(1, .methodref 2 3), (0, .class_ 4), (0, .nameAndType 5 6), (0, u "java/lang/Object"), (0, u "<init>"), (0, u "()V"), (0, .string 8), (0, u ""), (0, .fieldref 10 11), (0, .class_ 12), (0, .nameAndType 13 14), (0, u "java/lang/String"), (0, u "value"), (0, u "[B"), (0, .fieldref 10 16), (0, .nameAndType 17 18), (0, u "coder"), (0, u "B"), (2, u "hash"), (0, u "I"), (2, u "hashIsZero"), (0, u "Z"), (0, .methodref 10 28), (0, .nameAndType 5 29), (0, u "([CIILjava/lang/Void;)V"), (8, .fieldref 10 39), (0, .nameAndType 40 26), (0, u "COMPACT_STRINGS"), (1, .class_ 44), (1, u "java/lang/StringUTF16"), (0, u "compress"), (1, .methodref 42 48), (0, .nameAndType 49 50), (0, u "coderFromArrayLen"), (0, u "([BI)B"), (56, .class_ 109), (1, u "java/lang/StringLatin1"), (67, .methodref 42 178), (0, .nameAndType 45 179), (0, u "([CII)[B"), (361, .methodref 107 542), (0, .nameAndType 543 544), (0, u "equals"), (0, u "([B[B)Z"), (28, u "(Ljava/lang/Object;)Z"), (1, .class_ 576), (0, u "java/lang/CharSequence"), (22, u "CASE_INSENSITIVE_ORDER"), (0, u "Ljava/util/Comparator;"), (409, u "([C)V"), (90, u "serialPersistentFields"), (0, u "[Ljava/io/ObjectStreamField;"), (0, .class_ 1104), (0, u "java/lang/String$CaseInsensitiveComparator"), (1, .class_ 1107), (0, u "java/io/Serializable"), (0, .class_ 1109), (0, u "java/lang/Comparable"), (0, .class_ 1111), (0, u "java/lang/constant/Constable"), (0, .class_ 1113), (0, u "java/lang/constant/ConstantDesc"), (2, u "serialVersionUID"), (0, u "J"), (3, u "REPL"), (0, u "C"), (2, u "LATIN1"), (1, u "UTF16")] 323

def k7m0 : Method := { name := "<init>", desc := "()V", sig := { parameters := [], returnType := none }, accessFlags := 1, code := none }
def k7c1 : Code := { maxStack := 5, maxLocals := 2, code := jdk_42_method_3_code, exceptionTable := #[], attributes := #[] }
def k7m1 : Method := { name := "<init>", desc := "([C)V", sig := { parameters := [(.array .char)], returnType := none }, accessFlags := 1, code := some k7c1 }
def k7c2 : Code := { maxStack := 2, maxLocals := 3, code := jdk_42_method_66_code, exceptionTable := #[], attributes := #[] }
def k7m2 : Method := { name := "equals", desc := "(Ljava/lang/Object;)Z", sig := { parameters := [(.object "java/lang/Object")], returnType := some .boolean }, accessFlags := 1, code := some k7c2 }
def k7c3 : Code := { maxStack := 4, maxLocals := 6, code := jdk_42_method_149_code, exceptionTable := #[], attributes := #[] }
def k7m3 : Method := { name := "<init>", desc := "([CIILjava/lang/Void;)V", sig := { parameters := [(.array .char), .int, .int, (.object "java/lang/Void")], returnType := none }, accessFlags := 2, code := some k7c3 }
/-- java/lang/String -/
def k7 : Class := { plain "java/lang/String" (some 0) with
  accessFlags := 49
  interfaces := #[2, 3, 4, 5, 6]
  cf := some (fileOf pool7 10 #[.nestMembers #[1103]] #[{ accessFlags := 1, nameIndex := 5, descriptorIndex := 6, attributes := #[] }, { accessFlags := 1, nameIndex := 5, descriptorIndex := 1010, attributes := #[] }, { accessFlags := 1, nameIndex := 543, descriptorIndex := 573, attributes := #[] }, { accessFlags := 2, nameIndex := 5, descriptorIndex := 29, attributes := #[] }] 49 2 #[1106, 1108, 575, 1110, 1112] #[{ accessFlags := 18, nameIndex := 13, descriptorIndex := 14, attributes := #[] }, { accessFlags := 18, nameIndex := 17, descriptorIndex := 18, attributes := #[] }, { accessFlags := 2, nameIndex := 21, descriptorIndex := 22, attributes := #[] }, { accessFlags := 2, nameIndex := 25, descriptorIndex := 26, attributes := #[] }, { accessFlags := 26, nameIndex := 1116, descriptorIndex := 1117, attributes := #[] }, { accessFlags := 24, nameIndex := 40, descriptorIndex := 26, attributes := #[] }, { accessFlags := 26, nameIndex := 1101, descriptorIndex := 1102, attributes := #[] }, { accessFlags := 26, nameIndex := 1121, descriptorIndex := 1122, attributes := #[] }, { accessFlags := 25, nameIndex := 599, descriptorIndex := 600, attributes := #[] }, { accessFlags := 24, nameIndex := 1125, descriptorIndex := 18, attributes := #[] }, { accessFlags := 24, nameIndex := 1127, descriptorIndex := 18, attributes := #[] }])
  fields := #[{ name := "value", type := (.array .byte), accessFlags := 18, slot := 0, constantValue := 0 }, { name := "coder", type := .byte, accessFlags := 18, slot := 1, constantValue := 0 }, { name := "hash", type := .int, accessFlags := 2, slot := 2, constantValue := 0 }, { name := "hashIsZero", type := .boolean, accessFlags := 2, slot := 3, constantValue := 0 }, { name := "serialVersionUID", type := .long, accessFlags := 26, slot := 0, constantValue := 0 }, { name := "COMPACT_STRINGS", type := .boolean, accessFlags := 24, slot := 1, constantValue := 0 }, { name := "serialPersistentFields", type := (.array (.object "java/io/ObjectStreamField")), accessFlags := 26, slot := 2, constantValue := 0 }, { name := "REPL", type := .char, accessFlags := 26, slot := 3, constantValue := 0 }, { name := "CASE_INSENSITIVE_ORDER", type := (.object "java/util/Comparator"), accessFlags := 25, slot := 4, constantValue := 0 }, { name := "LATIN1", type := .byte, accessFlags := 24, slot := 5, constantValue := 0 }, { name := "UTF16", type := .byte, accessFlags := 24, slot := 6, constantValue := 0 }]
  methods := #[k7m0, k7m1, k7m2, k7m3]
  instanceTypes := #[(.array .byte), .byte, .int, .boolean]
  staticTypes := #[.long, .boolean, (.array (.object "java/io/ObjectStreamField")), .char, (.object "java/util/Comparator"), .byte, .byte]
  resolved := Array.replicate 1451 none
  statics := some 0 }

def pool8 : Array CpInfo := pool [(6, .class_ 8), (1, u "java/lang/Object"), (0, u "<init>"), (0, u "()V"), (1, .class_ 14), (1, u "java/lang/StringUTF16"), (31, u "$assertionsDisabled"), (0, u "Z"), (13, u "HI_BYTE_SHIFT"), (0, u "I"), (2, u "LO_BYTE_SHIFT"), (49, .methodref 12 116), (0, .nameAndType 117 118), (0, u "compress"), (0, u "([CI[BII)I"), (3, u "([CII)[B"), (138, u "coderFromArrayLen"), (0, u "([BI)B"), (106, .class_ 371), (1, u "java/lang/StringUTF16$LinesSpliterator"), (58, u "MAX_LENGTH"), (196, .class_ 628), (0, u "java/lang/StringUTF16$CodePointsSpliterator"), (0, .class_ 630), (0, u "java/lang/StringUTF16$CharsSpliterator")] 4

def k8m0 : Method := { name := "<init>", desc := "()V", sig := { parameters := [], returnType := none }, accessFlags := 0, code := none }
def k8c1 : Code := { maxStack := 2, maxLocals := 2, code := jdk_52_method_15_code, exceptionTable := #[], attributes := #[] }
def k8m1 : Method := { name := "coderFromArrayLen", desc := "([BI)B", sig := { parameters := [(.array .byte), .int], returnType := some .byte }, accessFlags := 8, code := some k8c1 }
def k8c2 : Code := { maxStack := 5, maxLocals := 6, code := jdk_52_method_16_code, exceptionTable := #[], attributes := #[] }
def k8m2 : Method := { name := "compress", desc := "([CII)[B", sig := { parameters := [(.array .char), .int, .int], returnType := some (.array .byte) }, accessFlags := 9, code := some k8c2 }
def k8c3 : Code := { maxStack := 3, maxLocals := 7, code := jdk_52_method_21_code, exceptionTable := #[], attributes := #[] }
def k8m3 : Method := { name := "compress", desc := "([CI[BII)I", sig := { parameters := [(.array .char), .int, (.array .byte), .int, .int], returnType := some .int }, accessFlags := 9, code := some k8c3 }
/-- java/lang/StringUTF16 -/
def k8 : Class := { plain "java/lang/StringUTF16" (some 0) with
  accessFlags := 48
  interfaces := #[]
  cf := some (fileOf pool8 12 #[.nestMembers #[627, 629, 369]] #[{ accessFlags := 0, nameIndex := 9, descriptorIndex := 10, attributes := #[] }, { accessFlags := 8, nameIndex := 261, descriptorIndex := 262, attributes := #[] }, { accessFlags := 9, nameIndex := 117, descriptorIndex := 122, attributes := #[] }, { accessFlags := 9, nameIndex := 117, descriptorIndex := 118, attributes := #[] }] 48 6 #[] #[{ accessFlags := 26, nameIndex := 61, descriptorIndex := 62, attributes := #[] }, { accessFlags := 26, nameIndex := 65, descriptorIndex := 62, attributes := #[] }, { accessFlags := 24, nameIndex := 430, descriptorIndex := 62, attributes := #[] }, { accessFlags := 4120, nameIndex := 46, descriptorIndex := 47, attributes := #[] }])
  fields := #[{ name := "HI_BYTE_SHIFT", type := .int, accessFlags := 26, slot := 0, constantValue := 0 }, { name := "LO_BYTE_SHIFT", type := .int, accessFlags := 26, slot := 1, constantValue := 0 }, { name := "MAX_LENGTH", type := .int, accessFlags := 24, slot := 2, constantValue := 0 }, { name := "$assertionsDisabled", type := .boolean, accessFlags := 4120, slot := 3, constantValue := 0 }]
  methods := #[k8m0, k8m1, k8m2, k8m3]
  instanceTypes := #[]
  staticTypes := #[.int, .int, .int, .boolean]
  resolved := Array.replicate 635 none
  statics := none }

def pool9 : Array CpInfo := pool [(2, .class_ 4), (1, u "java/lang/Enum"), (0, u "name"), (0, u "Ljava/lang/String;"), (2, u "ordinal"), (0, u "I"), (1, .class_ 14), (1, u "java/lang/Object"), (4, u "hash"), (86, .class_ 108), (1, u "java/lang/Enum$EnumDesc"), (2, .class_ 112), (0, u "java/lang/constant/Constable"), (0, .class_ 114), (0, u "java/lang/Comparable"), (0, .class_ 116), (0, u "java/io/Serializable")] 87

/-- java/lang/Enum -/
def k9 : Class := { plain "java/lang/Enum" (some 0) with
  accessFlags := 1057
  interfaces := #[5, 3, 2]
  cf := some (fileOf pool9 2 #[.nestMembers #[106]] #[] 1057 12 #[111, 113, 115] #[{ accessFlags := 18, nameIndex := 5, descriptorIndex := 6, attributes := #[] }, { accessFlags := 18, nameIndex := 9, descriptorIndex := 10, attributes := #[] }, { accessFlags := 2, nameIndex := 19, descriptorIndex := 10, attributes := #[] }])
  fields := #[{ name := "name", type := (.object "java/lang/String"), accessFlags := 18, slot := 0, constantValue := 0 }, { name := "ordinal", type := .int, accessFlags := 18, slot := 1, constantValue := 0 }, { name := "hash", type := .int, accessFlags := 2, slot := 2, constantValue := 0 }]
  methods := #[]
  instanceTypes := #[(.object "java/lang/String"), .int, .int]
  staticTypes := #[]
  resolved := Array.replicate 204 none
  statics := none }

def pool10 : Array CpInfo := pool [(1, .class_ 2), (0, u "com/example/secure_model_views/securemodelviews/PolicyTokens$Kind"), (2, u "WORD"), (0, u "Lcom/example/secure_model_views/securemodelviews/PolicyTokens$Kind;"), (2, u "STRING"), (2, u "INTEGER"), (2, u "SYMBOL"), (2, u "END"), (2, u "$VALUES"), (0, u "[Lcom/example/secure_model_views/securemodelviews/PolicyTokens$Kind;"), (6, .class_ 31), (1, u "java/lang/Enum"), (28, .class_ 61), (0, u "com/example/secure_model_views/securemodelviews/PolicyTokens")] 2

/-- com/example/secure_model_views/securemodelviews/PolicyTokens$Kind -/
def k10 : Class := { plain "com/example/secure_model_views/securemodelviews/PolicyTokens$Kind" (some 9) with
  accessFlags := 16432
  interfaces := #[]
  cf := some (fileOf pool10 1 #[.nestHost 60] #[] 16432 29 #[] #[{ accessFlags := 16409, nameIndex := 5, descriptorIndex := 6, attributes := #[] }, { accessFlags := 16409, nameIndex := 9, descriptorIndex := 6, attributes := #[] }, { accessFlags := 16409, nameIndex := 12, descriptorIndex := 6, attributes := #[] }, { accessFlags := 16409, nameIndex := 15, descriptorIndex := 6, attributes := #[] }, { accessFlags := 16409, nameIndex := 18, descriptorIndex := 6, attributes := #[] }, { accessFlags := 4122, nameIndex := 21, descriptorIndex := 22, attributes := #[] }])
  fields := #[{ name := "WORD", type := (.object "com/example/secure_model_views/securemodelviews/PolicyTokens$Kind"), accessFlags := 16409, slot := 0, constantValue := 0 }, { name := "STRING", type := (.object "com/example/secure_model_views/securemodelviews/PolicyTokens$Kind"), accessFlags := 16409, slot := 1, constantValue := 0 }, { name := "INTEGER", type := (.object "com/example/secure_model_views/securemodelviews/PolicyTokens$Kind"), accessFlags := 16409, slot := 2, constantValue := 0 }, { name := "SYMBOL", type := (.object "com/example/secure_model_views/securemodelviews/PolicyTokens$Kind"), accessFlags := 16409, slot := 3, constantValue := 0 }, { name := "END", type := (.object "com/example/secure_model_views/securemodelviews/PolicyTokens$Kind"), accessFlags := 16409, slot := 4, constantValue := 0 }, { name := "$VALUES", type := (.array (.object "com/example/secure_model_views/securemodelviews/PolicyTokens$Kind")), accessFlags := 4122, slot := 5, constantValue := 0 }]
  methods := #[]
  instanceTypes := #[(.object "java/lang/String"), .int, .int]
  staticTypes := #[(.object "com/example/secure_model_views/securemodelviews/PolicyTokens$Kind"), (.object "com/example/secure_model_views/securemodelviews/PolicyTokens$Kind"), (.object "com/example/secure_model_views/securemodelviews/PolicyTokens$Kind"), (.object "com/example/secure_model_views/securemodelviews/PolicyTokens$Kind"), (.object "com/example/secure_model_views/securemodelviews/PolicyTokens$Kind"), (.array (.object "com/example/secure_model_views/securemodelviews/PolicyTokens$Kind"))]
  resolved := Array.replicate 64 none
  statics := some 1 }

def pool11 : Array CpInfo := pool [(1, .methodref 2 3), (0, .class_ 4), (0, .nameAndType 5 6), (0, u "java/lang/Object"), (0, u "<init>"), (0, u "()V"), (0, .class_ 8), (0, u "java/lang/Record")] 13

def k11c0 : Code := { maxStack := 1, maxLocals := 1, code := jdk_30_method_1_code, exceptionTable := #[], attributes := #[] }
def k11m0 : Method := { name := "<init>", desc := "()V", sig := { parameters := [], returnType := none }, accessFlags := 4, code := some k11c0 }
/-- java/lang/Record -/
def k11 : Class := { plain "java/lang/Record" (some 0) with
  accessFlags := 1057
  interfaces := #[]
  cf := some (fileOf pool11 7 #[] #[{ accessFlags := 4, nameIndex := 5, descriptorIndex := 6, attributes := #[] }] 1057 2 #[] #[])
  fields := #[]
  methods := #[k11m0]
  instanceTypes := #[]
  staticTypes := #[]
  resolved := Array.replicate 22 none
  statics := none }

def pool12 : Array CpInfo := pool [(1, .methodref 2 3), (0, .class_ 4), (0, .nameAndType 5 6), (0, u "java/lang/Record"), (0, u "<init>"), (0, u "()V"), (0, .fieldref 8 9), (0, .class_ 10), (0, .nameAndType 11 12), (0, u "com/example/secure_model_views/securemodelviews/PolicyTokens$Token"), (0, u "kind"), (0, u "Lcom/example/secure_model_views/securemodelviews/PolicyTokens$Kind;"), (0, .fieldref 8 14), (0, .nameAndType 15 16), (0, u "text"), (0, u "Ljava/lang/String;"), (0, .fieldref 8 18), (0, .nameAndType 19 20), (0, u "line"), (0, u "I"), (0, .methodref 22 23), (0, .class_ 24), (0, .nameAndType 25 26), (0, u "java/lang/String"), (0, u "equals"), (0, u "(Ljava/lang/Object;)Z"), (26, u "(Lcom/example/secure_model_views/securemodelviews/PolicyTokens$Kind;Ljava/lang/String;I)V"), (3, u "is"), (0, u "(Lcom/example/secure_model_views/securemodelviews/PolicyTokens$Kind;Ljava/lang/String;)Z"), (8, .class_ 68), (0, u "com/example/secure_model_views/securemodelviews/PolicyTokens")] 32

def k12c0 : Code := { maxStack := 2, maxLocals := 4, code := prog_10_method_1_code, exceptionTable := #[], attributes := #[] }
def k12m0 : Method := { name := "<init>", desc := "(Lcom/example/secure_model_views/securemodelviews/PolicyTokens$Kind;Ljava/lang/String;I)V", sig := { parameters := [(.object "com/example/secure_model_views/securemodelviews/PolicyTokens$Kind"), (.object "java/lang/String"), .int], returnType := none }, accessFlags := 0, code := some k12c0 }
def k12c1 : Code := { maxStack := 2, maxLocals := 3, code := prog_10_method_2_code, exceptionTable := #[], attributes := #[] }
def k12m1 : Method := { name := "is", desc := "(Lcom/example/secure_model_views/securemodelviews/PolicyTokens$Kind;Ljava/lang/String;)Z", sig := { parameters := [(.object "com/example/secure_model_views/securemodelviews/PolicyTokens$Kind"), (.object "java/lang/String")], returnType := some .boolean }, accessFlags := 0, code := some k12c1 }
/-- com/example/secure_model_views/securemodelviews/PolicyTokens$Token -/
def k12 : Class := { plain "com/example/secure_model_views/securemodelviews/PolicyTokens$Token" (some 11) with
  accessFlags := 48
  interfaces := #[]
  cf := some (fileOf pool12 8 #[.nestHost 67] #[{ accessFlags := 0, nameIndex := 5, descriptorIndex := 53, attributes := #[] }, { accessFlags := 0, nameIndex := 57, descriptorIndex := 58, attributes := #[] }] 48 2 #[] #[{ accessFlags := 18, nameIndex := 11, descriptorIndex := 12, attributes := #[] }, { accessFlags := 18, nameIndex := 15, descriptorIndex := 16, attributes := #[] }, { accessFlags := 18, nameIndex := 19, descriptorIndex := 20, attributes := #[] }])
  fields := #[{ name := "kind", type := (.object "com/example/secure_model_views/securemodelviews/PolicyTokens$Kind"), accessFlags := 18, slot := 0, constantValue := 0 }, { name := "text", type := (.object "java/lang/String"), accessFlags := 18, slot := 1, constantValue := 0 }, { name := "line", type := .int, accessFlags := 18, slot := 2, constantValue := 0 }]
  methods := #[k12m0, k12m1]
  instanceTypes := #[(.object "com/example/secure_model_views/securemodelviews/PolicyTokens$Kind"), (.object "java/lang/String"), .int]
  staticTypes := #[]
  resolved := Array.replicate 101 none
  statics := none }

def pool13 : Array CpInfo := pool [(4, .class_ 6), (1, u "java/lang/Object"), (0, u "<init>"), (0, u "()V"), (5, .class_ 16), (1, u "java/lang/StringLatin1"), (104, u "$assertionsDisabled"), (0, u "Z"), (98, .class_ 223), (1, u "java/lang/StringLatin1$LinesSpliterator"), (57, u "equals"), (0, u "([B[B)Z"), (107, .class_ 391), (0, u "java/lang/StringLatin1$CharsSpliterator")] 3

def k13m0 : Method := { name := "<init>", desc := "()V", sig := { parameters := [], returnType := none }, accessFlags := 0, code := none }
def k13c1 : Code := { maxStack := 3, maxLocals := 3, code := jdk_43_method_13_code, exceptionTable := #[], attributes := #[] }
def k13m1 : Method := { name := "equals", desc := "([B[B)Z", sig := { parameters := [(.array .byte), (.array .byte)], returnType := some .boolean }, accessFlags := 9, code := some k13c1 }
/-- java/lang/StringLatin1 -/
def k13 : Class := { plain "java/lang/StringLatin1" (some 0) with
  accessFlags := 48
  interfaces := #[]
  cf := some (fileOf pool13 14 #[.nestMembers #[390, 221]] #[{ accessFlags := 0, nameIndex := 7, descriptorIndex := 8, attributes := #[] }, { accessFlags := 9, nameIndex := 281, descriptorIndex := 282, attributes := #[] }] 48 4 #[] #[{ accessFlags := 4120, nameIndex := 121, descriptorIndex := 122, attributes := #[] }])
  fields := #[{ name := "$assertionsDisabled", type := .boolean, accessFlags := 4120, slot := 0, constantValue := 0 }]
  methods := #[k13m0, k13m1]
  instanceTypes := #[]
  staticTypes := #[.boolean]
  resolved := Array.replicate 395 none
  statics := none }

def pool14 : Array CpInfo := pool [(2, .class_ 4), (1, u "java/lang/Object"), (0, u "<init>"), (0, u "()V"), (17, .class_ 26), (1, u "jdk/internal/util/Preconditions"), (28, .class_ 56), (0, u "jdk/internal/util/Preconditions$4"), (57, .class_ 115), (0, u "jdk/internal/util/Preconditions$1"), (7, u "SIOOBE_FORMATTER"), (0, u "Ljava/util/function/BiFunction;"), (0, .class_ 126), (0, u "jdk/internal/util/Preconditions$2"), (3, u "AIOOBE_FORMATTER"), (0, .class_ 132), (0, u "jdk/internal/util/Preconditions$3"), (3, u "IOOBE_FORMATTER")] 57

def k14m0 : Method := { name := "<init>", desc := "()V", sig := { parameters := [], returnType := none }, accessFlags := 1, code := none }
/-- jdk/internal/util/Preconditions -/
def k14 : Class := { plain "jdk/internal/util/Preconditions" (some 0) with
  accessFlags := 33
  interfaces := #[]
  cf := some (fileOf pool14 24 #[.nestMembers #[55, 131, 125, 114]] #[{ accessFlags := 1, nameIndex := 5, descriptorIndex := 6, attributes := #[] }] 33 2 #[] #[{ accessFlags := 25, nameIndex := 123, descriptorIndex := 124, attributes := #[] }, { accessFlags := 25, nameIndex := 130, descriptorIndex := 124, attributes := #[] }, { accessFlags := 25, nameIndex := 136, descriptorIndex := 124, attributes := #[] }])
  fields := #[{ name := "SIOOBE_FORMATTER", type := (.object "java/util/function/BiFunction"), accessFlags := 25, slot := 0, constantValue := 0 }, { name := "AIOOBE_FORMATTER", type := (.object "java/util/function/BiFunction"), accessFlags := 25, slot := 1, constantValue := 0 }, { name := "IOOBE_FORMATTER", type := (.object "java/util/function/BiFunction"), accessFlags := 25, slot := 2, constantValue := 0 }]
  methods := #[k14m0]
  instanceTypes := #[]
  staticTypes := #[(.object "java/util/function/BiFunction"), (.object "java/util/function/BiFunction"), (.object "java/util/function/BiFunction")]
  resolved := Array.replicate 194 none
  statics := some 2 }

def pool15 : Array CpInfo := pool [(9, u "<init>"), (6, .class_ 18), (1, u "java/lang/Object"), (0, u "()V"), (1, .class_ 23), (1, u "jdk/internal/util/ArraysSupport"), (0, u "LOG2_ARRAY_LONG_INDEX_SCALE"), (0, u "I"), (2, u "U"), (0, u "Ljdk/internal/misc/Unsafe;"), (8, u "BIG_ENDIAN"), (0, u "Z"), (8, u "LOG2_BYTE_BIT_SIZE"), (4, u "LOG2_ARRAY_INT_INDEX_SCALE"), (54, u "JLA"), (0, u "Ljdk/internal/access/JavaLangAccess;"), (11, u "LOG2_ARRAY_BOOLEAN_INDEX_SCALE"), (9, u "LOG2_ARRAY_BYTE_INDEX_SCALE"), (5, u "LOG2_ARRAY_CHAR_INDEX_SCALE"), (5, u "LOG2_ARRAY_SHORT_INDEX_SCALE"), (18, u "LOG2_ARRAY_FLOAT_INDEX_SCALE"), (24, u "LOG2_ARRAY_DOUBLE_INDEX_SCALE"), (89, u "T_BOOLEAN"), (2, u "T_CHAR"), (1, u "T_FLOAT"), (1, u "T_DOUBLE"), (1, u "T_BYTE"), (1, u "T_SHORT"), (1, u "T_INT"), (1, u "T_LONG"), (1, u "SOFT_MAX_ARRAY_LENGTH")] 83

def k15m0 : Method := { name := "<init>", desc := "()V", sig := { parameters := [], returnType := none }, accessFlags := 2, code := none }
/-- jdk/internal/util/ArraysSupport -/
def k15 : Class := { plain "jdk/internal/util/ArraysSupport" (some 0) with
  accessFlags := 33
  interfaces := #[]
  cf := some (fileOf pool15 21 #[] #[{ accessFlags := 2, nameIndex := 9, descriptorIndex := 19, attributes := #[] }] 33 16 #[] #[{ accessFlags := 24, nameIndex := 28, descriptorIndex := 29, attributes := #[] }, { accessFlags := 26, nameIndex := 38, descriptorIndex := 39, attributes := #[] }, { accessFlags := 25, nameIndex := 121, descriptorIndex := 25, attributes := #[] }, { accessFlags := 25, nameIndex := 131, descriptorIndex := 25, attributes := #[] }, { accessFlags := 25, nameIndex := 137, descriptorIndex := 25, attributes := #[] }, { accessFlags := 25, nameIndex := 143, descriptorIndex := 25, attributes := #[] }, { accessFlags := 25, nameIndex := 53, descriptorIndex := 25, attributes := #[] }, { accessFlags := 25, nameIndex := 24, descriptorIndex := 25, attributes := #[] }, { accessFlags := 25, nameIndex := 162, descriptorIndex := 25, attributes := #[] }, { accessFlags := 25, nameIndex := 187, descriptorIndex := 25, attributes := #[] }, { accessFlags := 26, nameIndex := 48, descriptorIndex := 25, attributes := #[] }, { accessFlags := 25, nameIndex := 277, descriptorIndex := 25, attributes := #[] }, { accessFlags := 25, nameIndex := 280, descriptorIndex := 25, attributes := #[] }, { accessFlags := 25, nameIndex := 282, descriptorIndex := 25, attributes := #[] }, { accessFlags := 25, nameIndex := 284, descriptorIndex := 25, attributes := #[] }, { accessFlags := 25, nameIndex := 286, descriptorIndex := 25, attributes := #[] }, { accessFlags := 25, nameIndex := 288, descriptorIndex := 25, attributes := #[] }, { accessFlags := 25, nameIndex := 290, descriptorIndex := 25, attributes := #[] }, { accessFlags := 25, nameIndex := 292, descriptorIndex := 25, attributes := #[] }, { accessFlags := 26, nameIndex := 108, descriptorIndex := 109, attributes := #[] }, { accessFlags := 25, nameIndex := 294, descriptorIndex := 25, attributes := #[] }])
  fields := #[{ name := "U", type := (.object "jdk/internal/misc/Unsafe"), accessFlags := 24, slot := 0, constantValue := 0 }, { name := "BIG_ENDIAN", type := .boolean, accessFlags := 26, slot := 1, constantValue := 0 }, { name := "LOG2_ARRAY_BOOLEAN_INDEX_SCALE", type := .int, accessFlags := 25, slot := 2, constantValue := 0 }, { name := "LOG2_ARRAY_BYTE_INDEX_SCALE", type := .int, accessFlags := 25, slot := 3, constantValue := 0 }, { name := "LOG2_ARRAY_CHAR_INDEX_SCALE", type := .int, accessFlags := 25, slot := 4, constantValue := 0 }, { name := "LOG2_ARRAY_SHORT_INDEX_SCALE", type := .int, accessFlags := 25, slot := 5, constantValue := 0 }, { name := "LOG2_ARRAY_INT_INDEX_SCALE", type := .int, accessFlags := 25, slot := 6, constantValue := 0 }, { name := "LOG2_ARRAY_LONG_INDEX_SCALE", type := .int, accessFlags := 25, slot := 7, constantValue := 0 }, { name := "LOG2_ARRAY_FLOAT_INDEX_SCALE", type := .int, accessFlags := 25, slot := 8, constantValue := 0 }, { name := "LOG2_ARRAY_DOUBLE_INDEX_SCALE", type := .int, accessFlags := 25, slot := 9, constantValue := 0 }, { name := "LOG2_BYTE_BIT_SIZE", type := .int, accessFlags := 26, slot := 10, constantValue := 0 }, { name := "T_BOOLEAN", type := .int, accessFlags := 25, slot := 11, constantValue := 0 }, { name := "T_CHAR", type := .int, accessFlags := 25, slot := 12, constantValue := 0 }, { name := "T_FLOAT", type := .int, accessFlags := 25, slot := 13, constantValue := 0 }, { name := "T_DOUBLE", type := .int, accessFlags := 25, slot := 14, constantValue := 0 }, { name := "T_BYTE", type := .int, accessFlags := 25, slot := 15, constantValue := 0 }, { name := "T_SHORT", type := .int, accessFlags := 25, slot := 16, constantValue := 0 }, { name := "T_INT", type := .int, accessFlags := 25, slot := 17, constantValue := 0 }, { name := "T_LONG", type := .int, accessFlags := 25, slot := 18, constantValue := 0 }, { name := "JLA", type := (.object "jdk/internal/access/JavaLangAccess"), accessFlags := 26, slot := 19, constantValue := 0 }, { name := "SOFT_MAX_ARRAY_LENGTH", type := .int, accessFlags := 25, slot := 20, constantValue := 0 }]
  methods := #[k15m0]
  instanceTypes := #[]
  staticTypes := #[(.object "jdk/internal/misc/Unsafe"), .boolean, .int, .int, .int, .int, .int, .int, .int, .int, .int, .int, .int, .int, .int, .int, .int, .int, .int, (.object "jdk/internal/access/JavaLangAccess"), .int]
  resolved := Array.replicate 378 none
  statics := none }

def pool16 : Array CpInfo := pool [(1, u "java/lang/Cloneable"), (0, .class_ 1), (0, u "java/lang/Object"), (0, .class_ 3)] 3

/-- java/lang/Cloneable -/
def k16 : Class := { plain "java/lang/Cloneable" (some 0) with
  accessFlags := 1537
  interfaces := #[]
  cf := some (fileOf pool16 2 #[] #[] 1537 4 #[] #[])
  fields := #[]
  methods := #[]
  instanceTypes := #[]
  staticTypes := #[]
  resolved := Array.replicate 8 none
  statics := none }

/-- the primitive byte -/
def k17 : Class := { plain "byte" none with kind := .primitive 'B', accessFlags := 0x411 }
/-- [B -/
def k18 : Class := { plain "[B" (some 0) with kind := .array 17 .byte, interfaces := #[16, 2], accessFlags := 1041 }

/-- the primitive char -/
def k19 : Class := { plain "char" none with kind := .primitive 'C', accessFlags := 0x411 }
/-- [C -/
def k20 : Class := { plain "[C" (some 0) with kind := .array 19 .char, interfaces := #[16, 2], accessFlags := 1041 }

/-- the primitive int -/
def k21 : Class := { plain "int" none with kind := .primitive 'I', accessFlags := 0x411 }
/-- [I -/
def k22 : Class := { plain "[I" (some 0) with kind := .array 21 .int, interfaces := #[16, 2], accessFlags := 1041 }

def heap : Heap := #[{ cls := 7, slots := #[.long 0, .int 1, .null, .int 0, .null, .int 0, .int 0], vm := .statics 7 },
  { cls := 10, slots := #[.ref 3, .ref 4, .ref 5, .ref 6, .ref 7, .null], vm := .statics 10 },
  { cls := 14, slots := #[.null, .null, .null], vm := .statics 14 },
  { cls := 10, slots := #[.null, .int 0, .int 0], vm := .none },
  { cls := 10, slots := #[.null, .int 1, .int 0], vm := .none },
  { cls := 10, slots := #[.null, .int 2, .int 0], vm := .none },
  { cls := 10, slots := #[.null, .int 3, .int 0], vm := .none },
  { cls := 10, slots := #[.null, .int 4, .int 0], vm := .none }]
def classes : Array Class := #[k0, k1, k2, k3, k4, k5, k6, k7, k8, k9, k10, k11, k12, k13, k14, k15, k16, k17, k18, k19, k20, k21, k22]
def interned : List (Array UInt16 × Addr) := []
def slotsUsed : Nat := 31
def theMethod : MethodId := ⟨1, 4⟩
def args0 : Array Value := #[.int 0, .int 0, .int 0, .int 0]
def aboutOver (below : List Frame) : State where
  vm := { classes := classes, interned := interned.toArray }
  heap := heap
  slotsUsed := slotsUsed
  threads := #[{ frames := .invoking theMethod args0 :: below }]
def below0 : List Frame := [.native { method := ⟨0, 0⟩, args := #[] }]
def about1 : State := aboutOver below0
def p0 : Program := .bare "" "" ""
def e0 : Env := launch0.env 0 0 0
theorem w_frames : about1.frames = Frame.invoking theMethod args0 :: below0 := rfl
set_option maxRecDepth 65536 in
theorem w_args : argsFit about1.vm theMethod args0 = true := by decide +kernel
set_option maxRecDepth 65536 in
theorem w_heap : heapFits about1 = true := by decide +kernel
set_option maxRecDepth 65536 in
theorem w_runnable : about1.curStatus? = some .runnable := by decide +kernel
set_option maxRecDepth 65536 in
theorem w_alone : about1.alone = true := by decide +kernel
set_option maxRecDepth 65536 in
theorem w_named : about1.methodNamed? x = some theMethod := by decide +kernel
set_option maxRecDepth 65536 in
theorem w_hears : about1.hears theMethod below0 = true := by decide +kernel
set_option maxRecDepth 65536 in
theorem w_ripe : about1.ripe theMethod args0 below0 = true := by decide +kernel
theorem w_running : about1.status = .running := rfl
set_option maxRecDepth 65536 in
theorem w_room : about1.hasRoom e0.platform room_1 = true :=
  launch0.hasRoom_least _ room_1 (by decide +kernel) (by decide +kernel) (by decide +kernel) (by decide +kernel) (by decide +kernel) (by decide +kernel)
theorem allAtoms_all (ts : List Jvm.Cond) (a : Array Jvm.Value) (st : Jvm.State) : (allAtoms ts).before a st = ts.all (fun c => c.before a st) := by
  induction ts with
  | nil => rfl
  | cons c t ih =>
    show (Jvm.Cond.and c (allAtoms t)).before a st = _
    rw [Jvm.Cond.before_and, ih, List.all_cons]
def words1 : List Jvm.Cond := Jvm.Cond.code x code maxLocals ret :: tables_1
/-- a 'code' word, met by the world's own term for the bytes: nothing is compared byte by byte -/
theorem code_word {y : MethodName} {bytes : ByteArray} {mx : Nat} {rt : Option FieldType} {a : Array Value} {s : State} {m : MethodId} {meth : Method} {c : Code} (h1 : s.methodNamed? y = some m) (h2 : s.vm.method? m = some meth) (h3 : meth.code = some c) (h4 : c.code = bytes)
    (h5 : (c.maxLocals == mx && c.exceptionTable.isEmpty && decide (c.maxStack ≤ mostOperands) && decide (meth.sig.returnType = rt) && !meth.locks && decide (parseMethodDescriptor y.desc = some meth.sig)) = true) : (Jvm.Cond.code y bytes mx rt).before a s = true := by
  simp only [Bool.and_eq_true, beq_iff_eq, Bool.not_eq_true', decide_eq_true_eq] at h5
  obtain ⟨⟨⟨⟨⟨g1, g2⟩, g3⟩, g4⟩, g5⟩, g6⟩ := h5
  simp [Cond.before, Cond.holds, Cond.value, h1, h2, h3, h4, g1, g2, g3, g4, g5, g6]
def isCode : Jvm.Cond → Bool
  | .code _ _ _ _ => true
  | _ => false
theorem all_split {L : List Jvm.Cond} {P : Jvm.Cond → Bool} (h1 : L.all (fun c => isCode c || P c) = true) (h2 : ∀ c ∈ L.filter isCode, P c = true) : L.all P = true := by
  refine List.all_eq_true.mpr fun c hc => ?_
  have h := List.all_eq_true.mp h1 c hc
  rcases Bool.eq_false_or_eq_true (isCode c) with hi | hi
  · exact h2 c (List.mem_filter.mpr ⟨hc, hi⟩)
  · simpa [hi] using h
set_option maxRecDepth 65536 in
theorem w_c0 : (Jvm.Cond.code x code maxLocals ret).before args0 about1 = true := code_word (m := ⟨1, 4⟩) (meth := k1m4) (c := k1c4) (by decide +kernel) rfl rfl rfl (by decide +kernel)
set_option maxRecDepth 65536 in
theorem w_c1 : (Jvm.Cond.code ({ cls := "com/example/secure_model_views/securemodelviews/TokenIsPinLaw", name := "lenOf", desc := "(I)I" } : Jvm.MethodName) method_3_code (2 : Nat) (Option.some Jvm.ClassFile.FieldType.int)).before args0 about1 = true := code_word (m := ⟨1, 2⟩) (meth := k1m2) (c := k1c2) (by decide +kernel) rfl rfl rfl (by decide +kernel)
set_option maxRecDepth 65536 in
theorem w_c2 : (Jvm.Cond.code ({ cls := "com/example/secure_model_views/securemodelviews/TokenIsPinLaw", name := "str", desc := "(ICC)Ljava/lang/String;" } : Jvm.MethodName) method_4_code (3 : Nat) (Option.some (Jvm.ClassFile.FieldType.object "java/lang/String"))).before args0 about1 = true := code_word (m := ⟨1, 3⟩) (meth := k1m3) (c := k1c3) (by decide +kernel) rfl rfl rfl (by decide +kernel)
set_option maxRecDepth 65536 in
theorem w_c3 : (Jvm.Cond.code ({ cls := "java/lang/String", name := "<init>", desc := "([C)V" } : Jvm.MethodName) jdk_42_method_3_code (2 : Nat) (Option.none : Option Jvm.ClassFile.FieldType)).before args0 about1 = true := code_word (m := ⟨7, 1⟩) (meth := k7m1) (c := k7c1) (by decide +kernel) rfl rfl rfl (by decide +kernel)
set_option maxRecDepth 65536 in
theorem w_c4 : (Jvm.Cond.code ({ cls := "java/lang/String", name := "<init>", desc := "([CIILjava/lang/Void;)V" } : Jvm.MethodName) jdk_42_method_149_code (6 : Nat) (Option.none : Option Jvm.ClassFile.FieldType)).before args0 about1 = true := code_word (m := ⟨7, 3⟩) (meth := k7m3) (c := k7c3) (by decide +kernel) rfl rfl rfl (by decide +kernel)
set_option maxRecDepth 65536 in
theorem w_c5 : (Jvm.Cond.code ({ cls := "java/lang/Object", name := "<init>", desc := "()V" } : Jvm.MethodName) object_method_1_code (1 : Nat) (Option.none : Option Jvm.ClassFile.FieldType)).before args0 about1 = true := code_word (m := ⟨0, 0⟩) (meth := k0m0) (c := k0c0) (by decide +kernel) rfl rfl rfl (by decide +kernel)
set_option maxRecDepth 65536 in
theorem w_c6 : (Jvm.Cond.code ({ cls := "java/lang/StringUTF16", name := "compress", desc := "([CII)[B" } : Jvm.MethodName) jdk_52_method_16_code (6 : Nat) (Option.some (Jvm.ClassFile.FieldType.array Jvm.ClassFile.FieldType.byte))).before args0 about1 = true := code_word (m := ⟨8, 2⟩) (meth := k8m2) (c := k8c2) (by decide +kernel) rfl rfl rfl (by decide +kernel)
set_option maxRecDepth 65536 in
theorem w_c7 : (Jvm.Cond.code ({ cls := "java/lang/StringUTF16", name := "compress", desc := "([CI[BII)I" } : Jvm.MethodName) jdk_52_method_21_code (7 : Nat) (Option.some Jvm.ClassFile.FieldType.int)).before args0 about1 = true := code_word (m := ⟨8, 3⟩) (meth := k8m3) (c := k8c3) (by decide +kernel) rfl rfl rfl (by decide +kernel)
set_option maxRecDepth 65536 in
theorem w_c8 : (Jvm.Cond.code ({ cls := "java/lang/StringUTF16", name := "coderFromArrayLen", desc := "([BI)B" } : Jvm.MethodName) jdk_52_method_15_code (2 : Nat) (Option.some Jvm.ClassFile.FieldType.byte)).before args0 about1 = true := code_word (m := ⟨8, 1⟩) (meth := k8m1) (c := k8c1) (by decide +kernel) rfl rfl rfl (by decide +kernel)
set_option maxRecDepth 65536 in
theorem w_c9 : (Jvm.Cond.code ({ cls := "com/example/secure_model_views/securemodelviews/TokenIsPinLaw", name := "kindOf", desc := "(I)Lcom/example/secure_model_views/securemodelviews/PolicyTokens$Kind;" } : Jvm.MethodName) method_2_code (1 : Nat) (Option.some (Jvm.ClassFile.FieldType.object "com/example/secure_model_views/securemodelviews/PolicyTokens$Kind"))).before args0 about1 = true := code_word (m := ⟨1, 1⟩) (meth := k1m1) (c := k1c1) (by decide +kernel) rfl rfl rfl (by decide +kernel)
set_option maxRecDepth 65536 in
theorem w_c10 : (Jvm.Cond.code ({ cls := "com/example/secure_model_views/securemodelviews/PolicyTokens$Token", name := "<init>", desc := "(Lcom/example/secure_model_views/securemodelviews/PolicyTokens$Kind;Ljava/lang/String;I)V" } : Jvm.MethodName) prog_10_method_1_code (4 : Nat) (Option.none : Option Jvm.ClassFile.FieldType)).before args0 about1 = true := code_word (m := ⟨12, 0⟩) (meth := k12m0) (c := k12c0) (by decide +kernel) rfl rfl rfl (by decide +kernel)
set_option maxRecDepth 65536 in
theorem w_c11 : (Jvm.Cond.code ({ cls := "java/lang/Record", name := "<init>", desc := "()V" } : Jvm.MethodName) jdk_30_method_1_code (1 : Nat) (Option.none : Option Jvm.ClassFile.FieldType)).before args0 about1 = true := code_word (m := ⟨11, 0⟩) (meth := k11m0) (c := k11c0) (by decide +kernel) rfl rfl rfl (by decide +kernel)
set_option maxRecDepth 65536 in
theorem w_c12 : (Jvm.Cond.code ({ cls := "com/example/secure_model_views/securemodelviews/PolicyTokens$Token", name := "is", desc := "(Lcom/example/secure_model_views/securemodelviews/PolicyTokens$Kind;Ljava/lang/String;)Z" } : Jvm.MethodName) prog_10_method_2_code (3 : Nat) (Option.some Jvm.ClassFile.FieldType.boolean)).before args0 about1 = true := code_word (m := ⟨12, 1⟩) (meth := k12m1) (c := k12c1) (by decide +kernel) rfl rfl rfl (by decide +kernel)
set_option maxRecDepth 65536 in
theorem w_c13 : (Jvm.Cond.code ({ cls := "java/lang/String", name := "equals", desc := "(Ljava/lang/Object;)Z" } : Jvm.MethodName) jdk_42_method_66_code (3 : Nat) (Option.some Jvm.ClassFile.FieldType.boolean)).before args0 about1 = true := code_word (m := ⟨7, 2⟩) (meth := k7m2) (c := k7c2) (by decide +kernel) rfl rfl rfl (by decide +kernel)
set_option maxRecDepth 65536 in
theorem w_c14 : (Jvm.Cond.code ({ cls := "java/lang/StringLatin1", name := "equals", desc := "([B[B)Z" } : Jvm.MethodName) jdk_43_method_13_code (3 : Nat) (Option.some Jvm.ClassFile.FieldType.boolean)).before args0 about1 = true := code_word (m := ⟨13, 1⟩) (meth := k13m1) (c := k13c1) (by decide +kernel) rfl rfl rfl (by decide +kernel)
def codes1 : List Jvm.Cond := [Jvm.Cond.code x code maxLocals ret, Jvm.Cond.code ({ cls := "com/example/secure_model_views/securemodelviews/TokenIsPinLaw", name := "lenOf", desc := "(I)I" } : Jvm.MethodName) method_3_code (2 : Nat) (Option.some Jvm.ClassFile.FieldType.int), Jvm.Cond.code ({ cls := "com/example/secure_model_views/securemodelviews/TokenIsPinLaw", name := "str", desc := "(ICC)Ljava/lang/String;" } : Jvm.MethodName) method_4_code (3 : Nat) (Option.some (Jvm.ClassFile.FieldType.object "java/lang/String")), Jvm.Cond.code ({ cls := "java/lang/String", name := "<init>", desc := "([C)V" } : Jvm.MethodName) jdk_42_method_3_code (2 : Nat) (Option.none : Option Jvm.ClassFile.FieldType), Jvm.Cond.code ({ cls := "java/lang/String", name := "<init>", desc := "([CIILjava/lang/Void;)V" } : Jvm.MethodName) jdk_42_method_149_code (6 : Nat) (Option.none : Option Jvm.ClassFile.FieldType), Jvm.Cond.code ({ cls := "java/lang/Object", name := "<init>", desc := "()V" } : Jvm.MethodName) object_method_1_code (1 : Nat) (Option.none : Option Jvm.ClassFile.FieldType), Jvm.Cond.code ({ cls := "java/lang/StringUTF16", name := "compress", desc := "([CII)[B" } : Jvm.MethodName) jdk_52_method_16_code (6 : Nat) (Option.some (Jvm.ClassFile.FieldType.array Jvm.ClassFile.FieldType.byte)), Jvm.Cond.code ({ cls := "java/lang/StringUTF16", name := "compress", desc := "([CI[BII)I" } : Jvm.MethodName) jdk_52_method_21_code (7 : Nat) (Option.some Jvm.ClassFile.FieldType.int), Jvm.Cond.code ({ cls := "java/lang/StringUTF16", name := "coderFromArrayLen", desc := "([BI)B" } : Jvm.MethodName) jdk_52_method_15_code (2 : Nat) (Option.some Jvm.ClassFile.FieldType.byte), Jvm.Cond.code ({ cls := "com/example/secure_model_views/securemodelviews/TokenIsPinLaw", name := "kindOf", desc := "(I)Lcom/example/secure_model_views/securemodelviews/PolicyTokens$Kind;" } : Jvm.MethodName) method_2_code (1 : Nat) (Option.some (Jvm.ClassFile.FieldType.object "com/example/secure_model_views/securemodelviews/PolicyTokens$Kind")), Jvm.Cond.code ({ cls := "com/example/secure_model_views/securemodelviews/PolicyTokens$Token", name := "<init>", desc := "(Lcom/example/secure_model_views/securemodelviews/PolicyTokens$Kind;Ljava/lang/String;I)V" } : Jvm.MethodName) prog_10_method_1_code (4 : Nat) (Option.none : Option Jvm.ClassFile.FieldType), Jvm.Cond.code ({ cls := "java/lang/Record", name := "<init>", desc := "()V" } : Jvm.MethodName) jdk_30_method_1_code (1 : Nat) (Option.none : Option Jvm.ClassFile.FieldType), Jvm.Cond.code ({ cls := "com/example/secure_model_views/securemodelviews/PolicyTokens$Token", name := "is", desc := "(Lcom/example/secure_model_views/securemodelviews/PolicyTokens$Kind;Ljava/lang/String;)Z" } : Jvm.MethodName) prog_10_method_2_code (3 : Nat) (Option.some Jvm.ClassFile.FieldType.boolean), Jvm.Cond.code ({ cls := "java/lang/String", name := "equals", desc := "(Ljava/lang/Object;)Z" } : Jvm.MethodName) jdk_42_method_66_code (3 : Nat) (Option.some Jvm.ClassFile.FieldType.boolean), Jvm.Cond.code ({ cls := "java/lang/StringLatin1", name := "equals", desc := "([B[B)Z" } : Jvm.MethodName) jdk_43_method_13_code (3 : Nat) (Option.some Jvm.ClassFile.FieldType.boolean)]
set_option maxRecDepth 65536 in
theorem codes_eq : words1.filter isCode = codes1 := rfl
theorem w_codes : ∀ c ∈ words1.filter isCode, c.before args0 about1 = true := by
  rw [codes_eq]
  intro c hc
  simp only [codes1, List.mem_cons, List.not_mem_nil, or_false] at hc
  rcases hc with rfl | rfl | rfl | rfl | rfl | rfl | rfl | rfl | rfl | rfl | rfl | rfl | rfl | rfl | rfl
  · exact w_c0
  · exact w_c1
  · exact w_c2
  · exact w_c3
  · exact w_c4
  · exact w_c5
  · exact w_c6
  · exact w_c7
  · exact w_c8
  · exact w_c9
  · exact w_c10
  · exact w_c11
  · exact w_c12
  · exact w_c13
  · exact w_c14
set_option maxRecDepth 65536 in
theorem w_t1 : (words1.take 24).all (fun c => isCode c || c.before args0 about1) = true := by decide +kernel
set_option maxRecDepth 65536 in
theorem w_t2 : ((words1.drop 24).take 24).all (fun c => isCode c || c.before args0 about1) = true := by decide +kernel
set_option maxRecDepth 65536 in
theorem w_t3 : (((words1.drop 24).drop 24).take 24).all (fun c => isCode c || c.before args0 about1) = true := by decide +kernel
set_option maxRecDepth 65536 in
theorem w_t4 : (((words1.drop 24).drop 24).drop 24).all (fun c => isCode c || c.before args0 about1) = true := by decide +kernel
theorem w_tables : (allAtoms (Jvm.Cond.code x code maxLocals ret :: tables_1)).before args0 about1 = true := by
  rw [allAtoms_all]
  show words1.all (fun c => c.before args0 about1) = true
  refine all_split ?_ w_codes
  rw [← List.take_append_drop 24 words1, List.all_append, w_t1, ← List.take_append_drop 24 (words1.drop 24), List.all_append, w_t2, ← List.take_append_drop 24 ((words1.drop 24).drop 24), List.all_append, w_t3, w_t4]
  rfl
set_option maxRecDepth 65536 in
theorem w_rest : rest_1_c.before args0 about1 = true := by decide +kernel
set_option maxRecDepth 65536 in
theorem w_case : (Jvm.Cond.and given_1 narrow_1).before args0 about1 = true := by decide +kernel
set_option maxRecDepth 65536 in
theorem w_consts : constsHeld consts_1 about1 := Jvm.Lit.constsHeldB_iff.mp (by decide +kernel)
theorem w_applies : (headSpec (Jvm.Cond.code x code maxLocals ret :: tables_1) room_1).applies x e0.platform about1 = true :=
  (Spec.applies_iff w_frames).mpr ⟨w_running, w_runnable, w_alone, w_named, w_hears, w_ripe, w_room, w_tables⟩
theorem atStart : AtStart classFile x code maxLocals ret World_1 tables_1 room_1 Calls_1 rest_1 Pre_1 launch0 p0 e0 about1 theMethod args0 below0 :=
  ⟨lists_1, trivial, launch0.admits_env _ _ _, launch0.least_env, fairChoices_fair.cas, fairChoices_fair.clock, w_frames, w_args, w_heap, w_applies, ⟨w_consts, trivial⟩, w_rest, w_case⟩
end start1
theorem witness_1 : WitnessClaimed_1 := ⟨start1.p0, start1.e0, start1.about1, start1.theMethod, start1.args0, start1.below0, start1.atStart⟩
end Jvm.Pilot.@@N@@
