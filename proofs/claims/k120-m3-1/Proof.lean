import JvmDerived
import JvmDerived.Pilot.@@N@@Statement
import JvmDerived.Pilot.@@N@@Code
set_option linter.unusedVariables false
set_option linter.unusedSimpArgs false
namespace Jvm.Pilot.@@N@@
open Jvm Jvm.ClassFile Sem Op Lib Jvm.Free Jvm.Stand Jvm.LawKit Jvm.RoadKit Bundle Jvm.Pilot.@@N@@.Jvm.D
section OwnKit
variable {p : Program} {l : Launch} {e : Env} {R : Room} {s : State} {m : MethodId} {args : Array Value} {below : List Frame} {meth : Method} {c : Code} {T : State} {locs : List Loc} {cells slots : Nat} {Z : State} {a0 : Array Value} {h h' h0 : Heap}
/-- the rest of the body's run, from A on: it ends, and E holds there -/
def own_Go (p : Program) (e : Env) (below : List Frame) (E : Outcome → State → Prop) (A : State) : Prop :=
  ∃ s₂ o, Steps p.tables e below A s₂ ∧ s₂.status = .running ∧ Ended s₂ below o ∧ E o s₂
theorem own_go {E : Outcome → State → Prop} {A B : State} (k : ∀ t, Steps p.tables e below A t → Steps p.tables e below B t) (g : own_Go p e below E A) : own_Go p e below E B := by
  obtain ⟨s₂, o, h1, h2⟩ := g
  exact ⟨s₂, o, k _ h1, h2⟩
theorem own_goT {E : Outcome → State → Prop} {A B : State} (k : Steps p.tables e below B A) (g : own_Go p e below E A) : own_Go p e below E B := own_go (fun _ q => k.trans q) g
/-- what a body leaves -/
def own_Out (s : State) (Q : Option Value → Heap → List Loc → Prop) (C S : Nat) (o : Outcome) (U : State) : Prop :=
  ∃ v L, o = .returned v ∧ Q v U.heap L ∧ FrameEnd s o U L C S
/-- a body's contract: called with as' over the heap h0 it returns, and Q holds of what it returns, of the heap that it leaves and of the places that it wrote -/
def own_Con (l : Launch) (Z : State) (y : MethodName) (bytes : ByteArray) (maxL : Nat) (ret : Option FieldType) (rm : Room) (as' : Array Value) (h0 : Heap) (Q : Option Value → Heap → List Loc → Prop) (ws : List Jvm.Cond) : Prop :=
  MetFree l y (head1 (Jvm.Cond.code y bytes maxL ret :: ws) rm) (fun a U => a = as' ∧ Z.Warmed39 U.vm ∧ U.heap = h0) (fun _ _ _ _ _ => True) (fun _ U o U' => ∃ v L, o = .returned v ∧ Q v U'.heap L ∧ FrameEnd U o U' L rm.cells rm.slots)
theorem own_con {y : MethodName} {bytes : ByteArray} {maxL : Nat} {ret : Option FieldType} {rm : Room} {as' : Array Value} {Q : Option Value → Heap → List Loc → Prop} {ws : List Jvm.Cond} {F : MethodId → JFrame} (hpn : plainFor y = true) (hef : ∀ m, entryFrame m as' maxL = F m)
    (H : ∀ (p : Program) (e : Env) (s : State) (m : MethodId) (below : List Frame) (meth : Method) (c : Code) (T : State), Stand p l e rm s m as' below meth c T [] 0 0 → p.tables.exec = Jvm.exec → c.code = bytes → c.maxLocals = maxL → Z.Warmed39 s.vm → s.vm.findClass y.cls = some m.cls → meth.name = y.name →
      meth.sig.returnType = ret → meth.locks = false → T.heap = h0 → own_Go p e below (own_Out s Q rm.cells rm.slots) (T.setTop (F m))) :
    own_Con l Z y bytes maxL ret rm as' h0 Q ws := by
  refine MetFree.of_bodySF hpn hisR ?_
  intro p e s m args below meth c s₁ Bd hml0 hP hK
  obtain ⟨rfl, hZ, hh⟩ := hP
  have k := H p e s m below meth c s₁ (Stand.of_body Bd) Bd.exec Bd.bytes hml0 hZ (findClass_of_methodNamed Bd.named) (name_of_methodNamed Bd.named Bd.method).1 Bd.returns Bd.notSynchronized (by rw [← hh, Bd.state]; rfl)
  rw [← hef m] at k
  exact k
theorem own_Con.mono {y : MethodName} {bytes : ByteArray} {maxL : Nat} {ret : Option FieldType} {rm : Room} {as' : Array Value} {Q Q' : Option Value → Heap → List Loc → Prop} {ws : List Jvm.Cond} (H : own_Con l Z y bytes maxL ret rm as' h0 Q ws) (k : ∀ v h L, Q v h L → Q' v h L) : own_Con l Z y bytes maxL ret rm as' h0 Q' ws := by
  intro p e ha hc hk s m args below hf happ hP hK
  obtain ⟨n, o, g1, g2, g3, v, L, g4, g5, g6⟩ := H p e ha hc hk s m args below hf happ hP hK
  exact ⟨n, o, g1, g2, g3, v, L, g4, k _ _ _ g5, g6⟩
/-! leaving -/
theorem own_iret (X : Stand p l e R s m args below meth c T locs cells slots) (hx : p.tables.exec = Jvm.exec) (hlk : meth.locks = false) {t : FieldType} (hret : meth.sig.returnType = some t) (hti : t = .int ∨ t = .boolean ∨ t = .byte ∨ t = .char ∨ t = .short) {pc : Nat} {Ls : Array Slot} {z : Int32} (hn : narrow t (.int z) = .int z)
    (hd : decode c.code pc = .ok (.ireturn, 1)) {Q : Option Value → Heap → List Loc → Prop} {C S : Nat} (hC : cells ≤ C) (hS : slots ≤ S) (hq : Q (some (.int z)) T.heap locs) : own_Go p e below (own_Out s Q C S) (T.setTop (mkF m pc Ls [.int z])) := by
  obtain ⟨fs, hr, hrun, hended, hW, hsame⟩ := X.leave (v := some (.int z)) (fun h => by rw [hret] at h; cases h)
  exact ⟨_, _, X.ireturnOut hx hret hn hti hd hr, hrun, hended, _, _, rfl, hq, ⟨_, rfl⟩, hW, hsame.mono hC hS⟩
theorem own_lret (X : Stand p l e R s m args below meth c T locs cells slots) (hx : p.tables.exec = Jvm.exec) (hlk : meth.locks = false) (hret : meth.sig.returnType = some .long) {pc : Nat} {Ls : Array Slot} {z : Int64}
    (hd : decode c.code pc = .ok (.lreturn, 1)) {Q : Option Value → Heap → List Loc → Prop} {C S : Nat} (hC : cells ≤ C) (hS : slots ≤ S) (hq : Q (some (.long z)) T.heap locs) : own_Go p e below (own_Out s Q C S) (T.setTop (mkF m pc Ls [.long z])) := by
  obtain ⟨fs, hr, hrun, hended, hW, hsame⟩ := X.leave (v := some (.long z)) (fun h => by rw [hret] at h; cases h)
  exact ⟨_, _, X.lreturnOut hx hret hd hr, hrun, hended, _, _, rfl, hq, ⟨_, rfl⟩, hW, hsame.mono hC hS⟩
theorem own_aret (X : Stand p l e R s m args below meth c T locs cells slots) (hx : p.tables.exec = Jvm.exec) (hlk : meth.locks = false) {t : FieldType} (hret : meth.sig.returnType = some t) (ht : t.isReference = true) {pc : Nat} {Ls : Array Slot} {w : Value} (hw : w.isRef = true)
    (hd : decode c.code pc = .ok (.areturn, 1)) {Q : Option Value → Heap → List Loc → Prop} {C S : Nat} (hC : cells ≤ C) (hS : slots ≤ S) (hq : Q (some w) T.heap locs) : own_Go p e below (own_Out s Q C S) (T.setTop (mkF m pc Ls [w])) := by
  obtain ⟨fs, hr, hrun, hended, hW, hsame⟩ := X.leave (v := some w) (fun h => by rw [hret] at h; cases h)
  exact ⟨_, _, X.areturnOut hx hw hret ht hd hr, hrun, hended, _, _, rfl, hq, ⟨_, rfl⟩, hW, hsame.mono hC hS⟩
theorem own_vret (X : Stand p l e R s m args below meth c T locs cells slots) (hx : p.tables.exec = Jvm.exec) (hlk : meth.locks = false) (hret : meth.sig.returnType = none) {pc : Nat} {Ls : Array Slot}
    (hd : decode c.code pc = .ok (.return_, 1)) {Q : Option Value → Heap → List Loc → Prop} {C S : Nat} (hC : cells ≤ C) (hS : slots ≤ S) (hq : Q none T.heap locs) : own_Go p e below (own_Out s Q C S) (T.setTop (mkF m pc Ls [])) := by
  obtain ⟨fs, hr, hrun, hended, hW, hsame⟩ := X.leave (v := none) (fun _ => rfl)
  exact ⟨_, _, X.returnOut hx hret hd hr, hrun, hended, _, _, rfl, hq, ⟨_, rfl⟩, hW, hsame.mono hC hS⟩
/-! a body that leaves the heap alone -/
def own_PQ (h0 : Heap) (w : Value) (v : Option Value) (h : Heap) (L : List Loc) : Prop := v = some w ∧ h = h0 ∧ L = []
theorem own_iteI {C : Prop} [Decidable C] {a b : Int32} {k n : Nat} {A : State} (h1 : C → own_Go p e below (own_Out s (own_PQ h0 (.int a)) k n) A) (h2 : ¬ C → own_Go p e below (own_Out s (own_PQ h0 (.int b)) k n) A) : own_Go p e below (own_Out s (own_PQ h0 (.int (if C then a else b))) k n) A := by
  by_cases q : C
  · rw [if_pos q]; exact h1 q
  · rw [if_neg q]; exact h2 q
theorem own_iteL {C : Prop} [Decidable C] {a b : Int64} {k n : Nat} {A : State} (h1 : C → own_Go p e below (own_Out s (own_PQ h0 (.long a)) k n) A) (h2 : ¬ C → own_Go p e below (own_Out s (own_PQ h0 (.long b)) k n) A) : own_Go p e below (own_Out s (own_PQ h0 (.long (if C then a else b))) k n) A := by
  by_cases q : C
  · rw [if_pos q]; exact h1 q
  · rw [if_neg q]; exact h2 q
/-! calls -/
theorem own_callS (X : Stand p l e R s m args below meth c T locs cells slots) (hx : p.tables.exec = Jvm.exec) (hZ : Z.Warmed39 s.vm) {own : String} (hown : s.vm.findClass own = some m.cls) {index : Nat} {y : MethodName} {bytes : ByteArray} {maxL : Nat} {ret : Option FieldType} {rm : Room} {argsL rest : List Value} {Q : Option Value → Heap → List Loc → Prop}
    (hM : own_Con l Z y bytes maxL ret rm argsL.toArray h Q []) (eT : T.heap = h) (wl : (Jvm.Cond.methodLink own index y).before a0 Z = true) (wst : (Jvm.Cond.static y).before a0 Z = true) (wz : (Jvm.Cond.initialized y.cls).before a0 Z = true) (wc : (Jvm.Cond.code y bytes maxL ret).before a0 Z = true) (hy : y.cls ≠ "java/lang/invoke/MethodHandle" ∧ y.cls ≠ "java/lang/invoke/VarHandle")
    {sig : MethodDescriptor} (hpd : parseMethodDescriptor y.desc = some sig) (hlen : argsL.length = sig.parameters.length) {g : JFrame} (hg : g.method = m) (hsize : g.locals.size = c.maxLocals) (hstack : g.stack = argsL.reverse ++ rest) (W : Nat) (hW : 2 * g.monitorRoom + (rest.map fun v => v.category).sum ≤ W) (hdg : decode c.code g.pc = .ok (.invokestatic index, 3))
    (hf : rm.frames + 1 ≤ R.frames) (hl : W + (maxL + 11) + rm.locals ≤ R.locals) (hcs : cells + rm.cells ≤ R.cells) (hss : slots + rm.slots ≤ R.slots) :
    ∃ (v : Option Value) (T' : State) (L : List Loc), Stand p l e R s m args below meth c T' (locs ++ L) (cells + rm.cells) (slots + rm.slots) ∧ Q v T'.heap L ∧ ∀ t, Steps p.tables e below (T'.setTop { g with pc := g.pc + 3, stack := v.toList ++ rest }) t → Steps p.tables e below (T.setTop g) t := by
  obtain ⟨v, _, ⟨T', L', k', n'⟩, -, X', ⟨L, hQ, q1, q2, q3⟩, st⟩ := Jvm.LawKit.callS X hx hown (mvT hZ wl) (mvT hZ wst) (mvT hZ wz) (mvT hZ wc) hy (backOf (W := W) hM hZ wc wz hf hl) hg hsize (argsL := argsL) (rest := rest) (fun sg hsg => by rw [hpd] at hsg; cases hsg; exact hlen) hstack hW hdg (fun _ _ => ⟨rfl, eT, hcs, hss⟩)
  dsimp only [Pt.U, Pt.locs, Pt.cells, Pt.slots] at X' q1 q2 q3 st hQ
  subst q1 q2 q3
  exact ⟨v, T', L, X', hQ, st⟩
theorem own_callSP (X : Stand p l e R s m args below meth c T locs cells slots) (hx : p.tables.exec = Jvm.exec) (hZ : Z.Warmed39 s.vm) {own : String} (hown : s.vm.findClass own = some m.cls) {index : Nat} {y : MethodName} {bytes : ByteArray} {maxL : Nat} {ret : Option FieldType} {rm : Room} {argsL rest : List Value} {w : Value}
    (hM : own_Con l Z y bytes maxL ret rm argsL.toArray h (own_PQ h w) []) (eT : T.heap = h) (wl : (Jvm.Cond.methodLink own index y).before a0 Z = true) (wst : (Jvm.Cond.static y).before a0 Z = true) (wz : (Jvm.Cond.initialized y.cls).before a0 Z = true) (wc : (Jvm.Cond.code y bytes maxL ret).before a0 Z = true) (hy : y.cls ≠ "java/lang/invoke/MethodHandle" ∧ y.cls ≠ "java/lang/invoke/VarHandle")
    {sig : MethodDescriptor} (hpd : parseMethodDescriptor y.desc = some sig) (hlen : argsL.length = sig.parameters.length) {g : JFrame} (hg : g.method = m) (hsize : g.locals.size = c.maxLocals) (hstack : g.stack = argsL.reverse ++ rest) (W : Nat) (hW : 2 * g.monitorRoom + (rest.map fun v => v.category).sum ≤ W) (hdg : decode c.code g.pc = .ok (.invokestatic index, 3))
    (hf : rm.frames + 1 ≤ R.frames) (hl : W + (maxL + 11) + rm.locals ≤ R.locals) (hrc : rm.cells = 0) (hrs : rm.slots = 0) (hcs : cells ≤ R.cells) (hss : slots ≤ R.slots) :
    ∃ (T' : State), Stand p l e R s m args below meth c T' locs cells slots ∧ T'.heap = h ∧ ∀ t, Steps p.tables e below (T'.setTop { g with pc := g.pc + 3, stack := w :: rest }) t → Steps p.tables e below (T.setTop g) t := by
  obtain ⟨v, T', L, X', ⟨rfl, q2, rfl⟩, st⟩ := own_callS X hx hZ hown hM eT wl wst wz wc hy hpd hlen hg hsize hstack W hW hdg hf hl (by omega) (by omega)
  rw [List.append_nil, hrc, hrs] at X'
  exact ⟨T', X', q2, st⟩
theorem own_callI (X : Stand p l e R s m args below meth c T locs cells slots) (hx : p.tables.exec = Jvm.exec) (hZ : Z.Warmed39 s.vm) {own : String} (hown : s.vm.findClass own = some m.cls) {index : Nat} {y : MethodName} (hy1 : y.name = "<init>") {bytes : ByteArray} {maxL : Nat} {rm : Room} {b : Addr} {argsL rest : List Value} {Q : Option Value → Heap → List Loc → Prop}
    (hM : own_Con l Z y bytes maxL none rm (Value.ref b :: argsL).toArray h Q []) (eT : T.heap = h) (wl : (Jvm.Cond.methodLink own index y).before a0 Z = true) (wi : (Jvm.Cond.instanceMethod y).before a0 Z = true) (wz : (Jvm.Cond.initialized y.cls).before a0 Z = true) (wc : (Jvm.Cond.code y bytes maxL none).before a0 Z = true) (hy : y.cls ≠ "java/lang/invoke/MethodHandle" ∧ y.cls ≠ "java/lang/invoke/VarHandle")
    {sig : MethodDescriptor} (hpd : parseMethodDescriptor y.desc = some sig) (hlen : argsL.length = sig.parameters.length) {g : JFrame} (hg : g.method = m) (hsize : g.locals.size = c.maxLocals) (hstack : g.stack = argsL.reverse ++ .ref b :: rest) (W : Nat) (hW : 2 * g.monitorRoom + (rest.map fun v => v.category).sum ≤ W) (hdg : decode c.code g.pc = .ok (.invokespecial index, 3))
    (hf : rm.frames + 1 ≤ R.frames) (hl : W + (maxL + 11) + rm.locals ≤ R.locals) (hcs : cells + rm.cells ≤ R.cells) (hss : slots + rm.slots ≤ R.slots) :
    ∃ (v : Option Value) (T' : State) (L : List Loc), Stand p l e R s m args below meth c T' (locs ++ L) (cells + rm.cells) (slots + rm.slots) ∧ Q v T'.heap L ∧ ∀ t, Steps p.tables e below (T'.setTop { g with pc := g.pc + 3, stack := v.toList ++ rest }) t → Steps p.tables e below (T.setTop g) t := by
  obtain ⟨v, _, ⟨T', L', k', n'⟩, -, X', ⟨L, hQ, q1, q2, q3⟩, st⟩ := X.specialBack hx hy1 hown (mvT hZ wl) (mvT hZ wi) (mvT hZ wc) hy (backOf (W := W) hM hZ wc wz hf hl) hg hsize (Steps.refl _) (a := b) (argsL := argsL) (rest := rest) (fun sg hsg => by rw [hpd] at hsg; cases hsg; exact hlen) hstack hW hdg (fun _ _ => ⟨rfl, eT, hcs, hss⟩)
  dsimp only [Pt.U, Pt.locs, Pt.cells, Pt.slots] at X' q1 q2 q3 st hQ
  subst q1 q2 q3
  exact ⟨v, T', L, X', hQ, fun _ k => st.trans k⟩
theorem own_callV (X : Stand p l e R s m args below meth c T locs cells slots) (hx : p.tables.exec = Jvm.exec) (hZ : Z.Warmed39 s.vm) {own C : String} (hown : s.vm.findClass own = some m.cls) {index : Nat} {y z : MethodName} {bytes : ByteArray} {maxL : Nat} {ret : Option FieldType} {rm : Room} {b : Addr} {argsL rest : List Value} {Q : Option Value → Heap → List Loc → Prop}
    (hM : own_Con l Z z bytes maxL ret rm (Value.ref b :: argsL).toArray h Q []) (eT : T.heap = h) (hE : Exa Z h b C) (wl : (Jvm.Cond.methodLink own index y).before a0 Z = true) (wd : (Jvm.Cond.declares y).before a0 Z = true) (wsel : (Jvm.Cond.selects C y z).before a0 Z = true) (wi : (Jvm.Cond.instanceMethod z).before a0 Z = true) (wz : (Jvm.Cond.initialized z.cls).before a0 Z = true) (wc : (Jvm.Cond.code z bytes maxL ret).before a0 Z = true) (hnf : NotFace s y) (hy : y.cls ≠ "java/lang/invoke/MethodHandle" ∧ y.cls ≠ "java/lang/invoke/VarHandle")
    {sig : MethodDescriptor} (hpd : parseMethodDescriptor y.desc = some sig) (hlen : argsL.length = sig.parameters.length) {g : JFrame} (hg : g.method = m) (hsize : g.locals.size = c.maxLocals) (hstack : g.stack = argsL.reverse ++ .ref b :: rest) (W : Nat) (hW : 2 * g.monitorRoom + (rest.map fun v => v.category).sum ≤ W) (hdg : decode c.code g.pc = .ok (.invokevirtual index, 3))
    (hf : rm.frames + 1 ≤ R.frames) (hl : W + (maxL + 11) + rm.locals ≤ R.locals) (hcs : cells + rm.cells ≤ R.cells) (hss : slots + rm.slots ≤ R.slots) :
    ∃ (v : Option Value) (T' : State) (L : List Loc), Stand p l e R s m args below meth c T' (locs ++ L) (cells + rm.cells) (slots + rm.slots) ∧ Q v T'.heap L ∧ ∀ t, Steps p.tables e below (T'.setTop { g with pc := g.pc + 3, stack := v.toList ++ rest }) t → Steps p.tables e below (T.setTop g) t := by
  obtain ⟨cq, kq, qa, qb, qc⟩ := isOf hZ eT hE
  obtain ⟨v, _, ⟨T', L', k', n'⟩, -, X', ⟨L, hQ, q1, q2, q3⟩, st⟩ := X.virtualBack hx hown (mvT hZ wl) (mvT hZ wd) hnf (mvT hZ wsel) (mvT hZ wi) hy (backOf (W := W) hM hZ wc wz hf hl) qa qc hg hsize (Steps.refl _) (argsL := argsL) (rest := rest) (fun sg hsg => by rw [hpd] at hsg; cases hsg; exact hlen) hstack hW hdg (fun _ _ => ⟨rfl, eT, hcs, hss⟩)
  dsimp only [Pt.U, Pt.locs, Pt.cells, Pt.slots] at X' q1 q2 q3 st hQ
  subst q1 q2 q3
  exact ⟨v, T', L, X', hQ, fun _ k => st.trans k⟩
theorem own_callP (X : Stand p l e R s m args below meth c T locs cells slots) (hx : p.tables.exec = Jvm.exec) (hZ : Z.Warmed39 s.vm) {own C : String} (hown : s.vm.findClass own = some m.cls) {index kk : Nat} {y : MethodName} {bytes : ByteArray} {maxL : Nat} {ret : Option FieldType} {rm : Room} {b : Addr} {argsL rest : List Value} {Q : Option Value → Heap → List Loc → Prop}
    (hM : own_Con l Z y bytes maxL ret rm (Value.ref b :: argsL).toArray h Q []) (eT : T.heap = h) (hE : Exa Z h b C) (wl : (Jvm.Cond.methodLink own index y).before a0 Z = true) (wi : (Jvm.Cond.instanceMethod y).before a0 Z = true) (wp : (Jvm.Cond.privateMethod y).before a0 Z = true) (wn : (Jvm.Cond.instantiable y.cls kk).before a0 Z = true) (wz : (Jvm.Cond.initialized y.cls).before a0 Z = true) (wc : (Jvm.Cond.code y bytes maxL ret).before a0 Z = true) (hy : y.cls ≠ "java/lang/invoke/MethodHandle" ∧ y.cls ≠ "java/lang/invoke/VarHandle")
    {sig : MethodDescriptor} (hpd : parseMethodDescriptor y.desc = some sig) (hlen : argsL.length = sig.parameters.length) {g : JFrame} (hg : g.method = m) (hsize : g.locals.size = c.maxLocals) (hstack : g.stack = argsL.reverse ++ .ref b :: rest) (W : Nat) (hW : 2 * g.monitorRoom + (rest.map fun v => v.category).sum ≤ W) (hdg : decode c.code g.pc = .ok (.invokevirtual index, 3))
    (hf : rm.frames + 1 ≤ R.frames) (hl : W + (maxL + 11) + rm.locals ≤ R.locals) (hcs : cells + rm.cells ≤ R.cells) (hss : slots + rm.slots ≤ R.slots) :
    ∃ (v : Option Value) (T' : State) (L : List Loc), Stand p l e R s m args below meth c T' (locs ++ L) (cells + rm.cells) (slots + rm.slots) ∧ Q v T'.heap L ∧ ∀ t, Steps p.tables e below (T'.setTop { g with pc := g.pc + 3, stack := v.toList ++ rest }) t → Steps p.tables e below (T.setTop g) t := by
  obtain ⟨cq, q, q'⟩ := hE.cell
  have hp := Cond.privateMethod_at (mvP hZ wp (args := #[]))
  have hn : (Jvm.Cond.instantiable y.cls kk).before args s = true := mvT hZ wn
  obtain ⟨c2, k2, i1, i2, i3, i4, -⟩ := Cond.instantiable_spec hn
  have hsel : (Jvm.Cond.selects y.cls y y).before args s = true := selects_self_of_private i1 i2 (Bool.or_eq_false_iff.mp i4).1 hp (mvT hZ wi) hy
  obtain ⟨v, _, ⟨T', L', k', n'⟩, -, X', ⟨L, hQ, q1, q2, q3⟩, st⟩ := X.privateBack hx hown (mvT hZ wl) (mvT hZ wi) hsel hp (mvT hZ wc) hy (backOf (W := W) hM hZ wc wz hf hl) hg hsize (Steps.refl _) (a := b) (by rw [eT]; exact q) q' (argsL := argsL) (rest := rest) (fun sg hsg => by rw [hpd] at hsg; cases hsg; exact hlen) hstack hW hdg (fun _ _ => ⟨rfl, eT, hcs, hss⟩)
  dsimp only [Pt.U, Pt.locs, Pt.cells, Pt.slots] at X' q1 q2 q3 st hQ
  subst q1 q2 q3
  exact ⟨v, T', L, X', hQ, fun _ k => st.trans k⟩
theorem own_pn {y : MethodName} (hq : plainName y.cls = true) : plainFor y = true := plainFor_of_name hq
end OwnKit
section OwnArr
variable {p : Program} {l : Launch} {e : Env} {R : Room} {s : State} {m : MethodId} {args : Array Value} {below : List Frame} {meth : Method} {c : Code} {T : State} {locs : List Loc} {cells slots : Nat} {Z : State} {a0 : Array Value} {h h' h0 : Heap} {a b : Addr} {ty : FieldType} {vs : List Value} {v : Value} {i sl : Nat} {ws : List Addr}
/-- an array of ty's at a, its components vs -/
def own_AV (Z : State) (h : Heap) (a : Addr) (ty : FieldType) (vs : List Value) : Prop := ∃ c : Cell, Arr Z h a c ty ∧ c.slots.toList = vs ∧ vs.length < 2147483648 ∧ ∀ v ∈ vs, fits ty v = true
theorem own_AV.lt (A : own_AV Z h a ty vs) : a < h.size := by obtain ⟨c, q, -⟩ := A; exact q.lt
theorem own_AV.short (A : own_AV Z h a ty vs) : vs.length < 2147483648 := by obtain ⟨c, -, -, q, -⟩ := A; exact q
theorem own_AV.ext (A : own_AV Z h a ty vs) (E : Ext h h') : own_AV Z h' a ty vs := by obtain ⟨c, q, r⟩ := A; exact ⟨c, q.ext E, r⟩
theorem own_AV.other (A : own_AV Z h b ty vs) (W : Wr h h' a sl v) (q : b ≠ a) : own_AV Z h' b ty vs := by obtain ⟨c, k, r⟩ := A; exact ⟨c, k.other W q, r⟩
theorem own_AV.keep (A : own_AV Z h a ty vs) (K : Keep h h' ws) (q : a ∉ ws) : own_AV Z h' a ty vs := by obtain ⟨c, k, r⟩ := A; exact ⟨c, ⟨K.2.1 a c k.1 q, k.2⟩, r⟩
theorem own_AV.set (A : own_AV Z h a ty vs) (W : Wr h h' a i v) (hv : fits ty v = true) : own_AV Z h' a ty (vs.set i v) := by
  obtain ⟨c, k, r, z, f⟩ := A
  refine ⟨c.setSlot i v, k.same W, ?_, by rw [List.length_set]; exact z, fun u hu => ?_⟩
  · show (c.slots.setIfInBounds i v).toList = _
    rw [Array.toList_setIfInBounds, r]
  · rcases List.mem_or_eq_of_mem_set hu with q | q
    · exact f u q
    · rw [q]; exact hv
theorem own_idx {j : Int32} {i : Nat} (hj : j.toInt = i) : ¬ j < 0 ∧ j.toNatClampNeg = i := by
  refine ⟨?_, ?_⟩
  · rw [Int32.lt_iff_toInt_lt, hj]; show ¬ (i : Int) < 0; omega
  · simp only [Int32.toNatClampNeg, hj]; rfl
theorem own_AV_new {cA : ClassId} {n : Int32} {k : Nat} (A : Arr Z h a (newA cA ty n) ty) (hn : n.toInt = k) : own_AV Z h a ty (List.replicate k (defaultValue ty)) := by
  obtain ⟨q1, q2⟩ := own_idx hn
  refine ⟨_, A, ?_, ?_, fun v hv => ?_⟩
  · show (Array.replicate n.toNatClampNeg _).toList = _
    rw [q2, Array.toList_replicate]
  · rw [List.length_replicate]
    have := n.toInt_lt
    omega
  · rw [(List.mem_replicate.mp hv).2]; cases ty <;> rfl
theorem own_newA (X : Stand p l e R s m args below meth c T locs cells slots) (hx : p.tables.exec = Jvm.exec) (hZ : Z.Warmed39 s.vm) {aty : ArrayType} (w : (Jvm.Cond.arrayClass (newarray.typeOf aty)).before a0 Z = true) (eT : T.heap = h) {g : JFrame} (hg : g.method = m) (hd : decode c.code g.pc = .ok (.newarray aty, 2)) {n : Int32} {rest : List Value} (hs : g.stack = .int n :: rest)
    (k cap : Nat) (hn : n.toInt = k) (hk : k ≤ cap) (hb : cap * 8 ≤ 536870912) (hc : cells + 1 ≤ R.cells) (hl : slots + cap ≤ R.slots) :
    ∃ T' h', Stand p l e R s m args below meth c T' locs (cells + 1) (slots + cap) ∧ T'.heap = h' ∧ Ext h h' ∧ own_AV Z h' h.size (newarray.typeOf aty) (List.replicate k (defaultValue (newarray.typeOf aty))) ∧ ∀ t, Steps p.tables e below (T'.setTop { g with pc := g.pc + 2, stack := .ref h.size :: rest }) t → Steps p.tables e below (T.setTop g) t := by
  obtain ⟨q1, q2⟩ := own_idx hn
  obtain ⟨T', h', cA, X', e', E, A, st⟩ := newP X hx hZ w eT hg hd hs q1 (cap := cap) (by rw [q2]; exact hk) hb hc hl
  exact ⟨T', h', X', e', E, own_AV_new A hn, st⟩
theorem own_stI (X : Stand p l e R s m args below meth c T locs cells slots) (hx : p.tables.exec = Jvm.exec) (hZ : Z.Warmed39 s.vm) (eT : T.heap = h) (A : own_AV Z h a .int vs) {j x : Int32} {g : JFrame} (hg : g.method = m) {rest : List Value} (hs : g.stack = .int x :: .int j :: .ref a :: rest) (hd : decode c.code g.pc = .ok (.iastore, 1)) (i : Nat) (hj : j.toInt = i) (hi : i < vs.length) :
    ∃ T' h', Stand p l e R s m args below meth c T' (locs ++ [⟨a, i⟩]) cells slots ∧ T'.heap = h' ∧ Wr h h' a i (.int x) ∧ own_AV Z h' a .int (vs.set i (.int x)) ∧ ∀ t, Steps p.tables e below (T'.setTop { g with pc := g.pc + 1, stack := rest }) t → Steps p.tables e below (T.setTop g) t := by
  obtain ⟨q1, q2⟩ := own_idx hj
  have A' := A
  obtain ⟨cl, k, r, -, -⟩ := A
  have hz : cl.slots.size = vs.length := by rw [← r]; simp
  obtain ⟨T', h', X', e', W, st⟩ := stI X hx hZ eT k (j := j) (x := x) (by rw [q2, hz]; exact fun u => u.elim q1 (fun z => by omega)) hg hs hd
  rw [q2] at X' W
  exact ⟨T', h', X', e', W, A'.set W rfl, st⟩
theorem own_stJ (X : Stand p l e R s m args below meth c T locs cells slots) (hx : p.tables.exec = Jvm.exec) (hZ : Z.Warmed39 s.vm) (eT : T.heap = h) (A : own_AV Z h a .long vs) {j : Int32} {x : Int64} {g : JFrame} (hg : g.method = m) {rest : List Value} (hs : g.stack = .long x :: .int j :: .ref a :: rest) (hd : decode c.code g.pc = .ok (.lastore, 1)) (i : Nat) (hj : j.toInt = i) (hi : i < vs.length) :
    ∃ T' h', Stand p l e R s m args below meth c T' (locs ++ [⟨a, i⟩]) cells slots ∧ T'.heap = h' ∧ Wr h h' a i (.long x) ∧ own_AV Z h' a .long (vs.set i (.long x)) ∧ ∀ t, Steps p.tables e below (T'.setTop { g with pc := g.pc + 1, stack := rest }) t → Steps p.tables e below (T.setTop g) t := by
  obtain ⟨q1, q2⟩ := own_idx hj
  have A' := A
  obtain ⟨cl, k, r, -, -⟩ := A
  have hz : cl.slots.size = vs.length := by rw [← r]; simp
  obtain ⟨T', h', X', e', W, st⟩ := stJ X hx hZ eT k (j := j) (x := x) (by rw [q2, hz]; exact fun u => u.elim q1 (fun z => by omega)) hg hs hd
  rw [q2] at X' W
  exact ⟨T', h', X', e', W, A'.set W rfl, st⟩
theorem own_ldI (X : Stand p l e R s m args below meth c T locs cells slots) (hx : p.tables.exec = Jvm.exec) (hZ : Z.Warmed39 s.vm) (eT : T.heap = h) (A : own_AV Z h a .int vs) {j : Int32} {g : JFrame} (hg : g.method = m) {rest : List Value} (hs : g.stack = .int j :: .ref a :: rest) (hd : decode c.code g.pc = .ok (.iaload, 1)) (i : Nat) (hj : j.toInt = i) {x : Value} (hi : vs[i]? = some x) :
    ∀ t, Steps p.tables e below (T.setTop { g with pc := g.pc + 1, stack := x :: rest }) t → Steps p.tables e below (T.setTop g) t := by
  obtain ⟨q1, q2⟩ := own_idx hj
  obtain ⟨cl, k, r, -, -⟩ := A
  have hz : cl.slots.size = vs.length := by rw [← r]; simp
  have hv : cl.slots[i]? = some x := by rw [← Array.getElem?_toList, r]; exact hi
  have hl := (List.getElem?_eq_some_iff.mp hi).1
  exact X.iaload hx (by rw [eT]; exact k.1) (State.isArrayOf_alike hZ.alike k.2.1) k.2.2 (by rw [q2, hz]; exact fun u => u.elim q1 (fun z => by omega)) (by rw [q2]; exact hv) hg hs hd
theorem own_ldJ (X : Stand p l e R s m args below meth c T locs cells slots) (hx : p.tables.exec = Jvm.exec) (hZ : Z.Warmed39 s.vm) (eT : T.heap = h) (A : own_AV Z h a .long vs) {j : Int32} {g : JFrame} (hg : g.method = m) {rest : List Value} (hs : g.stack = .int j :: .ref a :: rest) (hd : decode c.code g.pc = .ok (.laload, 1)) (i : Nat) (hj : j.toInt = i) {x : Value} (hi : vs[i]? = some x) :
    ∀ t, Steps p.tables e below (T.setTop { g with pc := g.pc + 1, stack := x :: rest }) t → Steps p.tables e below (T.setTop g) t := by
  obtain ⟨q1, q2⟩ := own_idx hj
  obtain ⟨cl, k, r, -, -⟩ := A
  have hz : cl.slots.size = vs.length := by rw [← r]; simp
  have hv : cl.slots[i]? = some x := by rw [← Array.getElem?_toList, r]; exact hi
  have hl := (List.getElem?_eq_some_iff.mp hi).1
  exact X.laload hx (by rw [eT]; exact k.1) (State.isArrayOf_alike hZ.alike k.2.1) k.2.2 (by rw [q2, hz]; exact fun u => u.elim q1 (fun z => by omega)) (by rw [q2]; exact hv) hg hs hd
theorem own_len (X : Stand p l e R s m args below meth c T locs cells slots) (hx : p.tables.exec = Jvm.exec) (hZ : Z.Warmed39 s.vm) (eT : T.heap = h) (A : own_AV Z h a ty vs) {g : JFrame} (hg : g.method = m) {rest : List Value} (hs : g.stack = .ref a :: rest) (hd : decode c.code g.pc = .ok (.arraylength, 1)) (n : Int32) (hn : n.toInt = vs.length) :
    ∀ t, Steps p.tables e below (T.setTop { g with pc := g.pc + 1, stack := .int n :: rest }) t → Steps p.tables e below (T.setTop g) t := by
  obtain ⟨cl, k, r, z, -⟩ := A
  have hz : cl.slots.size = vs.length := by rw [← r]; simp
  have en : cl.slots.size.toInt32 = n := Int32.toInt_inj.mp (by rw [hn, hz]; exact len_toInt z)
  intro t q
  refine X.arraylength hx (by rw [eT]; exact k.1) (State.isArrayOf_alike hZ.alike k.2.1) hg hs hd t ?_
  rw [en]; exact q
theorem own_newAE (X : Stand p l e R s m args below meth c T locs cells slots) (hx : p.tables.exec = Jvm.exec) (hZ : Z.Warmed39 s.vm) {aty : ArrayType} (w : (Jvm.Cond.arrayClass (newarray.typeOf aty)).before a0 Z = true) (eT : T.heap = h) {g : JFrame} (hg : g.method = m) (hd : decode c.code g.pc = .ok (.newarray aty, 2)) {n : Int32} {rest : List Value} (hs : g.stack = .int n :: rest)
    (k cap : Nat) (hn : n.toInt = k) (hk : k ≤ cap) (hb : cap * 8 ≤ 536870912) (hc : cells + 1 ≤ R.cells) (hl : slots + cap ≤ R.slots) {ad : String} (had : "[" ++ (newarray.typeOf aty).toString = ad) :
    ∃ T' h', Stand p l e R s m args below meth c T' locs (cells + 1) (slots + cap) ∧ T'.heap = h' ∧ Ext h h' ∧ own_AV Z h' h.size (newarray.typeOf aty) (List.replicate k (defaultValue (newarray.typeOf aty))) ∧ Exa Z h' h.size ad ∧ ∀ t, Steps p.tables e below (T'.setTop { g with pc := g.pc + 2, stack := .ref h.size :: rest }) t → Steps p.tables e below (T.setTop g) t := by
  obtain ⟨q1, q2⟩ := own_idx hn
  obtain ⟨T', h', cA, X', e', E, A, C, st⟩ := newPE X hx hZ w eT hg hd hs q1 (cap := cap) (by rw [q2]; exact hk) hb hc hl had
  exact ⟨T', h', X', e', E, own_AV_new A hn, C, st⟩
theorem own_AV.arv (A : own_AV Z h a ty vs) {z : Int32} (hz : z.toInt = vs.length) (dv : Value) : ∃ k, Arv Z h a k ty z vs dv := by
  obtain ⟨q1, q2⟩ := own_idx hz
  obtain ⟨cl, k, r, -, f⟩ := A
  have hs : cl.slots.size = vs.length := by rw [← r]; simp
  refine ⟨cl.cls, cl, k, rfl, by rw [hs, q2], q1, fun i hi => ?_, fun i hi => ?_⟩
  · rw [← Array.getElem?_toList, r, List.getD_eq_getElem?_getD, List.getElem?_eq_getElem (by omega)]; rfl
  · rw [List.getD_eq_getElem?_getD, List.getElem?_eq_getElem (by omega)]; exact f _ (List.getElem_mem _)
theorem own_arv {k : ClassId} {z : Int32} {dv : Value} (F : Arv Z h a k ty z vs dv) (hl : vs.length = z.toNatClampNeg) : own_AV Z h a ty vs := by
  obtain ⟨cl, A, -, S, q, H, G⟩ := F
  have hs : cl.slots.size = vs.length := by rw [S, hl]
  have e1 : cl.slots.toList = vs := by
    apply List.ext_getElem?
    intro i
    by_cases hi : i < vs.length
    · have := H i (by omega)
      rw [Array.getElem?_toList, this, List.getD_eq_getElem?_getD, List.getElem?_eq_getElem hi]; rfl
    · rw [List.getElem?_eq_none (l := vs) (by omega), List.getElem?_eq_none (l := cl.slots.toList) (by rw [Array.length_toList]; omega)]
  refine ⟨cl, A, e1, ?_, fun v hv => ?_⟩
  · have := z.toInt_lt
    rw [hl]; simp only [Int32.toNatClampNeg]; omega
  · obtain ⟨i, hi, rfl⟩ := List.getElem_of_mem hv
    have := G i (by omega)
    rw [List.getD_eq_getElem?_getD, List.getElem?_eq_getElem hi] at this
    exact this
theorem own_copy (X : Stand p l e R s m args below meth c T locs cells slots) (hx : p.tables.exec = Jvm.exec) (hZ : Z.Warmed39 s.vm) {own : String} {index : Nat} (hown : s.vm.findClass own = some m.cls)
    (w1 : (Jvm.Cond.methodLink own index Jvm.Stand.acN).before a0 Z = true) (w2 : (Jvm.Cond.native Jvm.Stand.acN).before a0 Z = true) (w3 : (Jvm.Cond.static Jvm.Stand.acN).before a0 Z = true) (w4 : (Jvm.Cond.initialized "java/lang/System").before a0 Z = true) (eT : T.heap = h)
    {us : List Value} (A : own_AV Z h a ty vs) (B : own_AV Z h b ty us) (hp : refKind ty = false) {sp dp nn : Int32} {g : JFrame} (hg : g.method = m) (hsize : g.locals.size = c.maxLocals) {rest : List Value} (hs : g.stack = .int nn :: .int dp :: .ref b :: .int sp :: .ref a :: rest) (hd : decode c.code g.pc = .ok (.invokestatic index, 3))
    (i j n : Nat) (hsp : sp.toInt = i) (hdp : dp.toInt = j) (hn : nn.toInt = n) (h4 : i + n ≤ vs.length) (h5 : j + n ≤ us.length) {n0 : Nat} (N : Fr n0 locs) (ge : n0 ≤ b)
    (W : Nat) (hW : 2 * g.monitorRoom + (rest.map fun v => v.category).sum ≤ W) (hf : 1 ≤ R.frames) (hlo : W + (nativeFrameWords "java/lang/System" "arraycopy" 5 + 11) ≤ R.locals) :
    ∃ T' h' L, Stand p l e R s m args below meth c T' L cells slots ∧ T'.heap = h' ∧ Fr n0 L ∧ Keep h h' [b] ∧ own_AV Z h' b ty (us.take j ++ (vs.drop i).take n ++ us.drop (j + n)) ∧
      ∀ t, Steps p.tables e below (T'.setTop { g with pc := g.pc + 3, stack := rest }) t → Steps p.tables e below (T.setTop g) t := by
  obtain ⟨s1, s2⟩ := own_idx hsp
  obtain ⟨d1, d2⟩ := own_idx hdp
  obtain ⟨n1, n2⟩ := own_idx hn
  have zA := len_toInt A.short
  have zB := len_toInt B.short
  obtain ⟨kA, FA⟩ := A.arv zA .null
  obtain ⟨kB, FB⟩ := B.arv zB .null
  have cA : vs.length.toInt32.toNatClampNeg = vs.length := (own_idx zA).2
  have cB : us.length.toInt32.toNatClampNeg = us.length := (own_idx zB).2
  have hus : (vs.drop i).take n = (List.range nn.toNatClampNeg).map fun q => vs.getD (sp.toNatClampNeg + q) .null := by
    rw [n2, s2]
    apply List.ext_getElem?
    intro q
    by_cases hq : q < n
    · rw [List.getElem?_take_of_lt hq, List.getElem?_drop, List.getElem?_map, List.getElem?_range hq, List.getElem?_eq_getElem (by omega)]
      show some _ = some (vs.getD (i + q) .null)
      rw [List.getD_eq_getElem?_getD, List.getElem?_eq_getElem (by omega)]; rfl
    · rw [List.getElem?_eq_none (by rw [List.length_take]; omega), List.getElem?_eq_none (by simp; omega)]
  obtain ⟨T', h', L, X', e', NL, K, F', st⟩ := cpA X hx hZ hown w1 w2 w3 w4 eT FA FB (Or.inl ⟨rfl, hp⟩) s1 d1 n1 (by rw [s2, n2, cA]; exact h4) (by rw [d2, n2, cB]; exact h5) hus (by rw [d2, n2]; exact h5) N ge hg hsize hs hd hf hW hlo
  rw [d2, n2] at F'
  exact ⟨T', h', L, X', e', NL, K, own_arv F' (by rw [cB]; simp only [List.length_append, List.length_take, List.length_drop]; omega), st⟩
theorem own_clone (X : Stand p l e R s m args below meth c T locs cells slots) (hx : p.tables.exec = Jvm.exec) (hZ : Z.Warmed39 s.vm) {own ad : String} {index : Nat} (hown : s.vm.findClass own = some m.cls)
    (w1 : (Jvm.Cond.methodLink own index ⟨ad, "clone", "()Ljava/lang/Object;"⟩).before a0 Z = true) (w2 : (Jvm.Cond.sameMethod ad "java/lang/Object" "clone" "()Ljava/lang/Object;").before a0 Z = true) (w3 : (Jvm.Cond.native ⟨"java/lang/Object", "clone", "()Ljava/lang/Object;"⟩).before a0 Z = true)
    (w4 : (Jvm.Cond.instanceMethod ⟨"java/lang/Object", "clone", "()Ljava/lang/Object;"⟩).before a0 Z = true) (w5 : (Jvm.Cond.selects ad ⟨ad, "clone", "()Ljava/lang/Object;"⟩ ⟨"java/lang/Object", "clone", "()Ljava/lang/Object;"⟩).before a0 Z = true) (w6 : (Jvm.Cond.castable ad "java/lang/Cloneable").before a0 Z = true)
    (eT : T.heap = h) (A : own_AV Z h a ty vs) (E : Exa Z h a ad) {g : JFrame} (hg : g.method = m) (hsize : g.locals.size = c.maxLocals) {rest : List Value} (hs : g.stack = .ref a :: rest) (hd : decode c.code g.pc = .ok (.invokevirtual index, 3))
    (W cap : Nat) (hW : 2 * g.monitorRoom + (rest.map fun v => v.category).sum ≤ W) (hf : 1 ≤ R.frames) (hl : W + 14 ≤ R.locals) (hcap : vs.length ≤ cap) (hc : cells + 1 ≤ R.cells) (hsl : slots + cap ≤ R.slots) :
    ∃ T' h', Stand p l e R s m args below meth c T' locs (cells + 1) (slots + cap) ∧ T'.heap = h' ∧ Ext h h' ∧ own_AV Z h' h.size ty vs ∧ Exa Z h' h.size ad ∧
      ∀ t, Steps p.tables e below (T'.setTop { g with pc := g.pc + 3, stack := .ref h.size :: rest }) t → Steps p.tables e below (T.setTop g) t := by
  obtain ⟨cl, k, r, z, f⟩ := A
  have hz : cl.slots.size = vs.length := by rw [← r]; simp
  have FC : FitC Z cl := fitC_of k fun i hi v hv => f v (by rw [← r]; exact List.mem_of_getElem? (i := i) (by rw [Array.getElem?_toList]; exact hv))
  obtain ⟨T', h', X', e', E', A', C', st⟩ := cloneA X hx hZ hown w1 w2 w3 w4 w5 w6 eT k E FC hg hsize hs hd hf (W := W) hW hl (cap := cap) (by omega) hc hsl
  exact ⟨T', h', X', e', E', ⟨_, A', r, z, f⟩, C', st⟩
end OwnArr
/-- an Ids at a, its array at b holding us, n of them counted -/
def own_Ids (Z : State) (h : Heap) (a b : Addr) (us : List Value) (n : Int32) : Prop := Exa Z h a "com/example/secure_model_views/securemodelviews/Ids" ∧ Fld Z h a "com/example/secure_model_views/securemodelviews/Ids" "ids" "[I" (.ref b) ∧ Fld Z h a "com/example/secure_model_views/securemodelviews/Ids" "size" "I" (.int n) ∧ own_AV Z h b .int us ∧ Exa Z h b "[I" ∧ a ≠ b
theorem d1_0 : decode prog_3_method_1_code 0 = .ok (.aload_n 0, 1) := by decide +kernel
theorem d1_1 : decode prog_3_method_1_code 1 = .ok (.invokespecial 1, 3) := by decide +kernel
theorem d1_4 : decode prog_3_method_1_code 4 = .ok (.aload_n 0, 1) := by decide +kernel
theorem d1_5 : decode prog_3_method_1_code 5 = .ok (.bipush 16, 2) := by decide +kernel
theorem d1_7 : decode prog_3_method_1_code 7 = .ok (.newarray .int, 2) := by decide +kernel
theorem d1_9 : decode prog_3_method_1_code 9 = .ok (.putfield 7, 3) := by decide +kernel
theorem d1_12 : decode prog_3_method_1_code 12 = .ok (.return_, 1) := by decide +kernel
set_option maxRecDepth 65536 in
set_option maxHeartbeats 40000000 in
theorem own_init_con (l : Launch) (Z : State) (a0 : Array Value) (hw : ∀ d ∈ tables_1, d.before a0 Z = true) (a : Addr) (n0 : Nat) (h0 : Heap) (o_E0 : Exa Z h0 a "com/example/secure_model_views/securemodelviews/Ids") (o_ids0 : Fld Z h0 a "com/example/secure_model_views/securemodelviews/Ids" "ids" "[I" .null) (o_size0 : Fld Z h0 a "com/example/secure_model_views/securemodelviews/Ids" "size" "I" (.int (0 : Int32))) (ga : n0 ≤ a) (gn : n0 ≤ h0.size) (ws : List Jvm.Cond) :
    own_Con l Z (⟨"com/example/secure_model_views/securemodelviews/Ids", "<init>", "()V"⟩ : MethodName) prog_3_method_1_code 1 none ({ frames := 1, cells := 1, slots := 16, locals := 40 } : Room) #[(.ref a)] h0 (fun v h L => v = none ∧ Fr n0 L ∧ Keep h0 h [a] ∧ own_Ids Z h a h0.size (List.replicate 16 (.int 0)) 0) ws := by
  refine own_con (F := fun m => (mkF m 0 #[.val (.ref a)] [])) (own_pn (by first | (simp [plainName, overriddenIn]; done) | decide +kernel)) (fun m => by first | (simp [entryFrame, mkF, argsToLocals, Value.category]; done) | rfl) ?_
  intro p e s m below meth c T X hx hby hml hZ hown hnm hret hlk eT
  show own_Go p e below (own_Out s (fun v h L => v = none ∧ Fr n0 L ∧ Keep h0 h [a] ∧ own_Ids Z h a h0.size (List.replicate 16 (.int 0)) 0) ({ frames := 1, cells := 1, slots := 16, locals := 40 } : Room).cells ({ frames := 1, cells := 1, slots := 16, locals := 40 } : Room).slots) (T.setTop (mkF m 0 #[.val (.ref a)] []))
  have N0 := Fr.nil n0
  have K0 := Keep.refl h0 [a]
  refine own_go (fun _ => XS.aloadN X.here hx rfl (hb hby d1_0) rfl rfl) ?_
  show own_Go p e below _ (T.setTop (mkF m 1 #[.val (.ref a)] [(.ref a)]))
  obtain ⟨T1, X1, e1, st1⟩ := initO X hx hZ hown (hw _ (List.mem_of_getElem? (i := 7) rfl)) (hw _ (List.mem_of_getElem? (i := 8) rfl)) (hw _ (List.mem_of_getElem? (i := 9) rfl)) eT (g := (mkF m 1 #[.val (.ref a)] [(.ref a)])) rfl (by rw [hml]; rfl) rfl (hb hby d1_1) (by decide) (W := 0) (by show 2 * 0 + _ ≤ _; exact Nat.le_of_eq rfl) (by decide)
  refine own_go st1 ?_
  show own_Go p e below _ (T1.setTop (mkF m 4 #[.val (.ref a)] []))
  refine own_go (fun _ => XS.aloadN X1.here hx rfl (hb hby d1_4) rfl rfl) ?_
  show own_Go p e below _ (T1.setTop (mkF m 5 #[.val (.ref a)] [(.ref a)]))
  refine own_go (fun _ => XS.bipush X1.here hx rfl (hb hby d1_5)) ?_
  show own_Go p e below _ (T1.setTop (mkF m 7 #[.val (.ref a)] [(.int (16 : Int32)), (.ref a)]))
  obtain ⟨T2, h2, X2, e2, E2, A2, C2, st2⟩ := own_newAE X1 hx hZ (aty := .int) (hw _ (List.mem_of_getElem? (i := 10) rfl)) e1 (g := (mkF m 7 #[.val (.ref a)] [(.int (16 : Int32)), (.ref a)])) rfl (hb hby d1_7) rfl 16 16 (by decide) (by decide) (by decide) (by decide) (by decide) (ad := "[I") (by first | rfl | decide)
  obtain ⟨a2, q2⟩ : ∃ z, z = h0.size := ⟨_, rfl⟩
  rw [← q2] at A2 C2 st2
  have ne_a_a2 : a ≠ a2 := fun z => absurd o_E0.lt (by rw [z, q2]; exact Nat.lt_irrefl _)
  have o_E_2 := o_E0.ext E2
  have o_ids_2 := o_ids0.ext E2
  have o_size_2 := o_size0.ext E2
  have K2 := K0.ext E2
  refine own_go st2 ?_
  show own_Go p e below _ (T2.setTop (mkF m 9 #[.val (.ref a)] [(.ref a2), (.ref a)]))
  obtain ⟨T3, h3, X3, e3, W3, st3⟩ := putF X2 hx hZ hown (host := "") (Or.inl (hw _ (List.mem_of_getElem? (i := 11) rfl))) Via.refl e2 o_ids_2 o_E_2 (Or.inl (hw _ (List.mem_of_getElem? (i := 12) rfl))) (hw _ (List.mem_of_getElem? (i := 2) rfl)) (ty := (.array .int)) (by decide) rfl rfl (g := (mkF m 9 #[.val (.ref a)] [(.ref a2), (.ref a)])) rfl rfl (hb hby d1_9)
  have N3 := Fr.snoc X3 N0 ga
  have o_E_3 := o_E_2.wr W3
  have o_ids_3 := o_ids_2.same W3
  have o_size_3 := o_size_2.other W3 (Or.inr (slot_ne (t := .int) (t' := (.array .int)) (Or.inl (hw _ (List.mem_of_getElem? (i := 19) rfl))) (Or.inl (hw _ (List.mem_of_getElem? (i := 12) rfl))) (by decide) (by decide) (by decide)))
  have r_E_3 := C2.wr W3
  have r_A_3 := A2.other W3 (Ne.symm ne_a_a2)
  have K3 := K2.wr W3 (Or.inl (List.mem_of_getElem? (i := 0) rfl))
  refine own_go st3 ?_
  show own_Go p e below _ (T3.setTop (mkF m 12 #[.val (.ref a)] []))
  exact own_vret X3 hx hlk hret (hb hby d1_12) (by decide) (by decide) (by rw [e3]; exact ⟨rfl, N3, K3, o_E_3, q2 ▸ o_ids_3, o_size_3, q2 ▸ r_A_3, q2 ▸ r_E_3, q2 ▸ ne_a_a2⟩)
theorem d7_0 : decode prog_3_method_2_code 0 = .ok (.aload_n 0, 1) := by decide +kernel
theorem d7_1 : decode prog_3_method_2_code 1 = .ok (.getfield 13, 3) := by decide +kernel
theorem d7_4 : decode prog_3_method_2_code 4 = .ok (.aload_n 0, 1) := by decide +kernel
theorem d7_5 : decode prog_3_method_2_code 5 = .ok (.getfield 7, 3) := by decide +kernel
theorem d7_8 : decode prog_3_method_2_code 8 = .ok (.arraylength, 1) := by decide +kernel
theorem d7_9 : decode prog_3_method_2_code 9 = .ok (.if_icmp .ne 20, 3) := by decide +kernel
theorem d7_29 : decode prog_3_method_2_code 29 = .ok (.aload_n 0, 1) := by decide +kernel
theorem d7_30 : decode prog_3_method_2_code 30 = .ok (.getfield 7, 3) := by decide +kernel
theorem d7_33 : decode prog_3_method_2_code 33 = .ok (.aload_n 0, 1) := by decide +kernel
theorem d7_34 : decode prog_3_method_2_code 34 = .ok (.getfield 13, 3) := by decide +kernel
theorem d7_37 : decode prog_3_method_2_code 37 = .ok (.iload_n 1, 1) := by decide +kernel
theorem d7_38 : decode prog_3_method_2_code 38 = .ok (.iastore, 1) := by decide +kernel
theorem d7_39 : decode prog_3_method_2_code 39 = .ok (.aload_n 0, 1) := by decide +kernel
theorem d7_40 : decode prog_3_method_2_code 40 = .ok (.dup, 1) := by decide +kernel
theorem d7_41 : decode prog_3_method_2_code 41 = .ok (.getfield 13, 3) := by decide +kernel
theorem d7_44 : decode prog_3_method_2_code 44 = .ok (.iconst 1, 1) := by decide +kernel
theorem d7_45 : decode prog_3_method_2_code 45 = .ok (.iadd, 1) := by decide +kernel
theorem d7_46 : decode prog_3_method_2_code 46 = .ok (.putfield 13, 3) := by decide +kernel
theorem d7_49 : decode prog_3_method_2_code 49 = .ok (.return_, 1) := by decide +kernel
set_option maxRecDepth 65536 in
set_option maxHeartbeats 40000000 in
theorem own_add_con (l : Launch) (Z : State) (a0 : Array Value) (hw : ∀ d ∈ tables_1, d.before a0 Z = true) (a b : Addr) (us : List Value) (n y : Int32) (j n0 : Nat) (h0 : Heap) (I0 : own_Ids Z h0 a b us n) (hj : n.toInt = j) (hlt : j < us.length) (ga : n0 ≤ a) (gb : n0 ≤ b) (ws : List Jvm.Cond) :
    own_Con l Z (⟨"com/example/secure_model_views/securemodelviews/Ids", "add", "(I)V"⟩ : MethodName) prog_3_method_2_code 2 none ({ frames := 0, cells := 0, slots := 0, locals := 0 } : Room) #[(.ref a), (.int y)] h0 (fun v h L => v = none ∧ Fr n0 L ∧ Keep h0 h [a, b] ∧ own_Ids Z h a b (us.set j (.int y)) (n + 1)) ws := by
  refine own_con (F := fun m => (mkF m 0 #[.val (.ref a), .val (.int y)] [])) (own_pn (by first | (simp [plainName, overriddenIn]; done) | decide +kernel)) (fun m => by first | (simp [entryFrame, mkF, argsToLocals, Value.category]; done) | rfl) ?_
  intro p e s m below meth c T X hx hby hml hZ hown hnm hret hlk eT
  show own_Go p e below (own_Out s (fun v h L => v = none ∧ Fr n0 L ∧ Keep h0 h [a, b] ∧ own_Ids Z h a b (us.set j (.int y)) (n + 1)) ({ frames := 0, cells := 0, slots := 0, locals := 0 } : Room).cells ({ frames := 0, cells := 0, slots := 0, locals := 0 } : Room).slots) (T.setTop (mkF m 0 #[.val (.ref a), .val (.int y)] []))
  obtain ⟨o_E0, o_ids0, o_size0, r_A0, r_E0, ne_a_b⟩ := I0
  have N0 := Fr.nil n0
  have K0 := Keep.refl h0 [a, b]
  have ez := len_toInt r_A0.short
  obtain ⟨z, hz⟩ : ∃ z : Int32, z = us.length.toInt32 := ⟨_, rfl⟩
  rw [← hz] at ez
  refine own_go (fun _ => XS.aloadN X.here hx rfl (hb hby d7_0) rfl rfl) ?_
  show own_Go p e below _ (T.setTop (mkF m 1 #[.val (.ref a), .val (.int y)] [(.ref a)]))
  obtain ⟨T1, X1, e1, st1⟩ := getF X hx hZ hown (host := "") (Or.inl (hw _ (List.mem_of_getElem? (i := 18) rfl))) Via.refl eT o_size0 (g := (mkF m 1 #[.val (.ref a), .val (.int y)] [(.ref a)])) rfl rfl (hb hby d7_1)
  refine own_go st1 ?_
  show own_Go p e below _ (T1.setTop (mkF m 4 #[.val (.ref a), .val (.int y)] [(.int n)]))
  refine own_go (fun _ => XS.aloadN X1.here hx rfl (hb hby d7_4) rfl rfl) ?_
  show own_Go p e below _ (T1.setTop (mkF m 5 #[.val (.ref a), .val (.int y)] [(.ref a), (.int n)]))
  obtain ⟨T2, X2, e2, st2⟩ := getF X1 hx hZ hown (host := "") (Or.inl (hw _ (List.mem_of_getElem? (i := 11) rfl))) Via.refl e1 o_ids0 (g := (mkF m 5 #[.val (.ref a), .val (.int y)] [(.ref a), (.int n)])) rfl rfl (hb hby d7_5)
  refine own_go st2 ?_
  show own_Go p e below _ (T2.setTop (mkF m 8 #[.val (.ref a), .val (.int y)] [(.ref b), (.int n)]))
  refine own_go (own_len X2 hx hZ e2 r_A0 (g := (mkF m 8 #[.val (.ref a), .val (.int y)] [(.ref b), (.int n)])) rfl rfl (hb hby d7_8) z ez) ?_
  show own_Go p e below _ (T2.setTop (mkF m 9 #[.val (.ref a), .val (.int y)] [(.int z), (.int n)]))
  refine own_go (fun _ => XS.icmpYes X2.here hx rfl (pc0 := 9) (pc' := 29) rfl (hb hby d7_9) rfl (XT.ii_ne_t (fun q => by rw [q, ez] at hj; omega)) (by decide) (by decide)) ?_
  show own_Go p e below _ (T2.setTop (mkF m 29 #[.val (.ref a), .val (.int y)] []))
  refine own_go (fun _ => XS.aloadN X2.here hx rfl (hb hby d7_29) rfl rfl) ?_
  show own_Go p e below _ (T2.setTop (mkF m 30 #[.val (.ref a), .val (.int y)] [(.ref a)]))
  obtain ⟨T3, X3, e3, st3⟩ := getF X2 hx hZ hown (host := "") (Or.inl (hw _ (List.mem_of_getElem? (i := 11) rfl))) Via.refl e2 o_ids0 (g := (mkF m 30 #[.val (.ref a), .val (.int y)] [(.ref a)])) rfl rfl (hb hby d7_30)
  refine own_go st3 ?_
  show own_Go p e below _ (T3.setTop (mkF m 33 #[.val (.ref a), .val (.int y)] [(.ref b)]))
  refine own_go (fun _ => XS.aloadN X3.here hx rfl (hb hby d7_33) rfl rfl) ?_
  show own_Go p e below _ (T3.setTop (mkF m 34 #[.val (.ref a), .val (.int y)] [(.ref a), (.ref b)]))
  obtain ⟨T4, X4, e4, st4⟩ := getF X3 hx hZ hown (host := "") (Or.inl (hw _ (List.mem_of_getElem? (i := 18) rfl))) Via.refl e3 o_size0 (g := (mkF m 34 #[.val (.ref a), .val (.int y)] [(.ref a), (.ref b)])) rfl rfl (hb hby d7_34)
  refine own_go st4 ?_
  show own_Go p e below _ (T4.setTop (mkF m 37 #[.val (.ref a), .val (.int y)] [(.int n), (.ref b)]))
  refine own_go (fun _ => XS.iloadN X4.here hx rfl (hb hby d7_37) rfl) ?_
  show own_Go p e below _ (T4.setTop (mkF m 38 #[.val (.ref a), .val (.int y)] [(.int y), (.int n), (.ref b)]))
  obtain ⟨T5, h5, X5, e5, W5, A5, st5⟩ := own_stI X4 hx hZ e4 r_A0 (g := (mkF m 38 #[.val (.ref a), .val (.int y)] [(.int y), (.int n), (.ref b)])) rfl rfl (hb hby d7_38) j hj hlt
  have N5 := Fr.snoc X5 N0 gb
  have o_E_5 := o_E0.wr W5
  have o_ids_5 := o_ids0.other W5 (Or.inl ne_a_b)
  have o_size_5 := o_size0.other W5 (Or.inl ne_a_b)
  have r_E_5 := r_E0.wr W5
  have K5 := K0.wr W5 (Or.inl (List.mem_of_getElem? (i := 1) rfl))
  refine own_go st5 ?_
  show own_Go p e below _ (T5.setTop (mkF m 39 #[.val (.ref a), .val (.int y)] []))
  refine own_go (fun _ => XS.aloadN X5.here hx rfl (hb hby d7_39) rfl rfl) ?_
  show own_Go p e below _ (T5.setTop (mkF m 40 #[.val (.ref a), .val (.int y)] [(.ref a)]))
  refine own_go (fun _ => XS.dup X5.here hx rfl (hb hby d7_40) rfl rfl) ?_
  show own_Go p e below _ (T5.setTop (mkF m 41 #[.val (.ref a), .val (.int y)] [(.ref a), (.ref a)]))
  obtain ⟨T6, X6, e6, st6⟩ := getF X5 hx hZ hown (host := "") (Or.inl (hw _ (List.mem_of_getElem? (i := 18) rfl))) Via.refl e5 o_size_5 (g := (mkF m 41 #[.val (.ref a), .val (.int y)] [(.ref a), (.ref a)])) rfl rfl (hb hby d7_41)
  refine own_go st6 ?_
  show own_Go p e below _ (T6.setTop (mkF m 44 #[.val (.ref a), .val (.int y)] [(.int n), (.ref a)]))
  refine own_go (fun _ => XS.iconst X6.here hx rfl (hb hby d7_44)) ?_
  show own_Go p e below _ (T6.setTop (mkF m 45 #[.val (.ref a), .val (.int y)] [(.int (1 : Int32)), (.int n), (.ref a)]))
  refine own_go (fun _ => XS.iadd X6.here hx rfl (hb hby d7_45) rfl) ?_
  show own_Go p e below _ (T6.setTop (mkF m 46 #[.val (.ref a), .val (.int y)] [(.int (n + (1 : Int32))), (.ref a)]))
  obtain ⟨T7, h7, X7, e7, W7, st7⟩ := putF X6 hx hZ hown (host := "") (Or.inl (hw _ (List.mem_of_getElem? (i := 18) rfl))) Via.refl e6 o_size_5 o_E_5 (Or.inl (hw _ (List.mem_of_getElem? (i := 19) rfl))) (hw _ (List.mem_of_getElem? (i := 2) rfl)) (ty := .int) (by decide) rfl rfl (g := (mkF m 46 #[.val (.ref a), .val (.int y)] [(.int (n + (1 : Int32))), (.ref a)])) rfl rfl (hb hby d7_46)
  have N7 := Fr.snoc X7 N5 ga
  have o_E_7 := o_E_5.wr W7
  have o_ids_7 := o_ids_5.other W7 (Or.inr (slot_ne (t := (.array .int)) (t' := .int) (Or.inl (hw _ (List.mem_of_getElem? (i := 12) rfl))) (Or.inl (hw _ (List.mem_of_getElem? (i := 19) rfl))) (by decide) (by decide) (by decide)))
  have o_size_7 := o_size_5.same W7
  have r_A_7 := A5.other W7 (Ne.symm ne_a_b)
  have r_E_7 := r_E_5.wr W7
  have K7 := K5.wr W7 (Or.inl (List.mem_of_getElem? (i := 0) rfl))
  refine own_go st7 ?_
  show own_Go p e below _ (T7.setTop (mkF m 49 #[.val (.ref a), .val (.int y)] []))
  exact own_vret X7 hx hlk hret (hb hby d7_49) (by decide) (by decide) (by rw [e7]; exact ⟨rfl, N7, K7, o_E_7, o_ids_7, o_size_7, r_A_7, r_E_7, ne_a_b⟩)
theorem d5_0 : decode jdk_29_method_69_code 0 = .ok (.iload_n 0, 1) := by decide +kernel
theorem d5_1 : decode jdk_29_method_69_code 1 = .ok (.iload_n 1, 1) := by decide +kernel
theorem d5_2 : decode jdk_29_method_69_code 2 = .ok (.if_icmp .gt 7, 3) := by decide +kernel
theorem d5_5 : decode jdk_29_method_69_code 5 = .ok (.iload_n 0, 1) := by decide +kernel
theorem d5_6 : decode jdk_29_method_69_code 6 = .ok (.goto 4, 3) := by decide +kernel
theorem d5_9 : decode jdk_29_method_69_code 9 = .ok (.iload_n 1, 1) := by decide +kernel
theorem d5_10 : decode jdk_29_method_69_code 10 = .ok (.ireturn, 1) := by decide +kernel
def own_min (x0 : Int32) (x1 : Int32) : Int32 := (if x1 < x0 then x1 else x0)
set_option maxRecDepth 65536 in
set_option maxHeartbeats 40000000 in
theorem own_min_con (l : Launch) (Z : State) (a0 : Array Value) (hw : ∀ d ∈ tables_1, d.before a0 Z = true) (x0 : Int32) (x1 : Int32)  (h0 : Heap) (ws : List Jvm.Cond) :
    own_Con l Z (⟨"java/lang/Math", "min", "(II)I"⟩ : MethodName) jdk_29_method_69_code 2 (some .int) ({ frames := 0, cells := 0, slots := 0, locals := 0 } : Room) #[(.int x0), (.int x1)] h0 (own_PQ h0 (.int (own_min x0 x1))) ws := by
  refine own_con (F := fun m => (mkF m 0 #[.val (.int x0), .val (.int x1)] [])) (by decide +kernel) (fun m => by first | (simp [entryFrame, mkF, argsToLocals, Value.category]; done) | rfl) ?_
  intro p e s m below meth c T X hx hby hml hZ hown hnm hret hlk eT
  show own_Go p e below (own_Out s (own_PQ h0 (.int (own_min x0 x1))) 0 0) (T.setTop (mkF m 0 #[.val (.int x0), .val (.int x1)] []))
  show own_Go p e below (own_Out s (own_PQ h0 (.int (if x1 < x0 then x1 else x0))) 0 0) _
  refine own_go (fun _ => XS.iloadN X.here hx rfl (hb hby d5_0) rfl) ?_
  show own_Go p e below _ (T.setTop (mkF m 1 #[.val (.int x0), .val (.int x1)] [(.int x0)]))
  refine own_go (fun _ => XS.iloadN X.here hx rfl (hb hby d5_1) rfl) ?_
  show own_Go p e below _ (T.setTop (mkF m 2 #[.val (.int x0), .val (.int x1)] [(.int x1), (.int x0)]))
  refine own_iteI (fun hc2 => ?_) (fun hc2 => ?_)
  · skip
    refine own_go (fun _ => XS.icmpYes X.here hx rfl (pc0 := 2) (pc' := 9) rfl (hb hby d5_2) rfl (XT.ii_gt_t hc2) (by decide) (by decide)) ?_
    show own_Go p e below _ (T.setTop (mkF m 9 #[.val (.int x0), .val (.int x1)] []))
    refine own_go (fun _ => XS.iloadN X.here hx rfl (hb hby d5_9) rfl) ?_
    show own_Go p e below _ (T.setTop (mkF m 10 #[.val (.int x0), .val (.int x1)] [(.int x1)]))
    exact own_iret X hx hlk hret (Or.inl rfl) rfl (hb hby d5_10) (Nat.zero_le _) (Nat.zero_le _) ⟨rfl, eT, rfl⟩
  · skip
    refine own_go (fun _ => XS.icmpNo X.here hx rfl (hb hby d5_2) rfl (XT.ii_gt_f hc2)) ?_
    show own_Go p e below _ (T.setTop (mkF m 5 #[.val (.int x0), .val (.int x1)] []))
    refine own_go (fun _ => XS.iloadN X.here hx rfl (hb hby d5_5) rfl) ?_
    show own_Go p e below _ (T.setTop (mkF m 6 #[.val (.int x0), .val (.int x1)] [(.int x0)]))
    refine own_go (fun _ => XS.goto X.here hx rfl (pc0 := 6) (pc' := 10) rfl (hb hby d5_6) (by decide) (by decide)) ?_
    show own_Go p e below _ (T.setTop (mkF m 10 #[.val (.int x0), .val (.int x1)] [(.int x0)]))
    exact own_iret X hx hlk hret (Or.inl rfl) rfl (hb hby d5_10) (Nat.zero_le _) (Nat.zero_le _) ⟨rfl, eT, rfl⟩
theorem own_min_toInt (z n : Int32) : (own_min z n).toInt = min z.toInt n.toInt := by
  unfold own_min
  by_cases q : n < z
  · rw [if_pos q]; rw [Int32.lt_iff_toInt_lt] at q; omega
  · rw [if_neg q]; rw [Int32.lt_iff_toInt_lt] at q; omega
theorem own_cut (us : List Value) (j : Nat) : (List.replicate j (defaultValue .int)).take 0 ++ (us.drop 0).take (min us.length j) ++ (List.replicate j (defaultValue .int)).drop (0 + min us.length j) = us.take j ++ List.replicate (j - us.length) (Value.int 0) := by
  rw [List.take_zero, List.nil_append, List.drop_zero, List.drop_replicate]
  show us.take (min us.length j) ++ List.replicate (j - (0 + min us.length j)) (Value.int 0) = _
  by_cases q : us.length ≤ j
  · rw [Nat.min_eq_left q, List.take_of_length_le (Nat.le_refl _), List.take_of_length_le q, Nat.zero_add]
  · rw [Nat.min_eq_right (by omega), show j - (0 + j) = 0 by omega, show j - us.length = 0 by omega]
theorem d4_0 : decode jdk_65_method_123_code 0 = .ok (.iload_n 1, 1) := by decide +kernel
theorem d4_1 : decode jdk_65_method_123_code 1 = .ok (.aload_n 0, 1) := by decide +kernel
theorem d4_2 : decode jdk_65_method_123_code 2 = .ok (.arraylength, 1) := by decide +kernel
theorem d4_3 : decode jdk_65_method_123_code 3 = .ok (.if_icmp .ne 11, 3) := by decide +kernel
theorem d4_14 : decode jdk_65_method_123_code 14 = .ok (.iload_n 1, 1) := by decide +kernel
theorem d4_15 : decode jdk_65_method_123_code 15 = .ok (.newarray .int, 2) := by decide +kernel
theorem d4_17 : decode jdk_65_method_123_code 17 = .ok (.astore_n 2, 1) := by decide +kernel
theorem d4_18 : decode jdk_65_method_123_code 18 = .ok (.aload_n 0, 1) := by decide +kernel
theorem d4_19 : decode jdk_65_method_123_code 19 = .ok (.iconst 0, 1) := by decide +kernel
theorem d4_20 : decode jdk_65_method_123_code 20 = .ok (.aload_n 2, 1) := by decide +kernel
theorem d4_21 : decode jdk_65_method_123_code 21 = .ok (.iconst 0, 1) := by decide +kernel
theorem d4_22 : decode jdk_65_method_123_code 22 = .ok (.aload_n 0, 1) := by decide +kernel
theorem d4_23 : decode jdk_65_method_123_code 23 = .ok (.arraylength, 1) := by decide +kernel
theorem d4_24 : decode jdk_65_method_123_code 24 = .ok (.iload_n 1, 1) := by decide +kernel
theorem d4_25 : decode jdk_65_method_123_code 25 = .ok (.invokestatic 304, 3) := by decide +kernel
theorem d4_28 : decode jdk_65_method_123_code 28 = .ok (.invokestatic 150, 3) := by decide +kernel
theorem d4_31 : decode jdk_65_method_123_code 31 = .ok (.aload_n 2, 1) := by decide +kernel
theorem d4_32 : decode jdk_65_method_123_code 32 = .ok (.areturn, 1) := by decide +kernel
set_option maxRecDepth 65536 in
set_option maxHeartbeats 40000000 in
theorem own_copyOf_con (l : Launch) (Z : State) (a0 : Array Value) (hw : ∀ d ∈ tables_1, d.before a0 Z = true) (b : Addr) (us : List Value) (n : Int32) (j n0 : Nat) (h0 : Heap) (r_A0 : own_AV Z h0 b .int us) (hj : n.toInt = j) (hcap : j ≤ 4) (hne : j ≠ us.length) (gn : n0 ≤ h0.size) (ws : List Jvm.Cond) :
    own_Con l Z (⟨"java/util/Arrays", "copyOf", "([II)[I"⟩ : MethodName) jdk_65_method_123_code 3 (some (.array .int)) ({ frames := 1, cells := 1, slots := 4, locals := 60 } : Room) #[(.ref b), (.int n)] h0 (fun v h L => v = some (.ref h0.size) ∧ Fr n0 L ∧ Keep h0 h [] ∧ own_AV Z h h0.size .int (us.take j ++ List.replicate (j - us.length) (.int 0)) ∧ Exa Z h h0.size "[I") ws := by
  refine own_con (F := fun m => (mkF m 0 #[.val (.ref b), .val (.int n), .unset] [])) (own_pn (by first | (simp [plainName, overriddenIn]; done) | decide +kernel)) (fun m => by first | (simp [entryFrame, mkF, argsToLocals, Value.category]; done) | rfl) ?_
  intro p e s m below meth c T X hx hby hml hZ hown hnm hret hlk eT
  show own_Go p e below (own_Out s (fun v h L => v = some (.ref h0.size) ∧ Fr n0 L ∧ Keep h0 h [] ∧ own_AV Z h h0.size .int (us.take j ++ List.replicate (j - us.length) (.int 0)) ∧ Exa Z h h0.size "[I") ({ frames := 1, cells := 1, slots := 4, locals := 60 } : Room).cells ({ frames := 1, cells := 1, slots := 4, locals := 60 } : Room).slots) (T.setTop (mkF m 0 #[.val (.ref b), .val (.int n), .unset] []))
  have N0 := Fr.nil n0
  have K0 := Keep.refl h0 []
  have ez := len_toInt r_A0.short
  obtain ⟨z, hz⟩ : ∃ z : Int32, z = us.length.toInt32 := ⟨_, rfl⟩
  rw [← hz] at ez
  refine own_go (fun _ => XS.iloadN X.here hx rfl (hb hby d4_0) rfl) ?_
  show own_Go p e below _ (T.setTop (mkF m 1 #[.val (.ref b), .val (.int n), .unset] [(.int n)]))
  refine own_go (fun _ => XS.aloadN X.here hx rfl (hb hby d4_1) rfl rfl) ?_
  show own_Go p e below _ (T.setTop (mkF m 2 #[.val (.ref b), .val (.int n), .unset] [(.ref b), (.int n)]))
  refine own_go (own_len X hx hZ eT r_A0 (g := (mkF m 2 #[.val (.ref b), .val (.int n), .unset] [(.ref b), (.int n)])) rfl rfl (hb hby d4_2) z ez) ?_
  show own_Go p e below _ (T.setTop (mkF m 3 #[.val (.ref b), .val (.int n), .unset] [(.int z), (.int n)]))
  refine own_go (fun _ => XS.icmpYes X.here hx rfl (pc0 := 3) (pc' := 14) rfl (hb hby d4_3) rfl (XT.ii_ne_t (fun q => by rw [q, ez] at hj; omega)) (by decide) (by decide)) ?_
  show own_Go p e below _ (T.setTop (mkF m 14 #[.val (.ref b), .val (.int n), .unset] []))
  refine own_go (fun _ => XS.iloadN X.here hx rfl (hb hby d4_14) rfl) ?_
  show own_Go p e below _ (T.setTop (mkF m 15 #[.val (.ref b), .val (.int n), .unset] [(.int n)]))
  obtain ⟨T1, h1, X1, e1, E1, A1, C1, st1⟩ := own_newAE X hx hZ (aty := .int) (hw _ (List.mem_of_getElem? (i := 10) rfl)) eT (g := (mkF m 15 #[.val (.ref b), .val (.int n), .unset] [(.int n)])) rfl (hb hby d4_15) rfl j 4 hj hcap (by decide) (by decide) (by decide) (ad := "[I") (by first | rfl | decide)
  obtain ⟨a1, q1⟩ : ∃ z, z = h0.size := ⟨_, rfl⟩
  rw [← q1] at A1 C1 st1
  have ne_b_a1 : b ≠ a1 := fun z => absurd r_A0.lt (by rw [z, q1]; exact Nat.lt_irrefl _)
  have r_A_1 := r_A0.ext E1
  have K1 := K0.ext E1
  refine own_go st1 ?_
  show own_Go p e below _ (T1.setTop (mkF m 17 #[.val (.ref b), .val (.int n), .unset] [(.ref a1)]))
  refine own_go (fun _ => XS.astoreN X1.here hx rfl (hb hby d4_17) rfl rfl (l' := #[.val (.ref b), .val (.int n), .val (.ref a1)]) rfl) ?_
  show own_Go p e below _ (T1.setTop (mkF m 18 #[.val (.ref b), .val (.int n), .val (.ref a1)] []))
  refine own_go (fun _ => XS.aloadN X1.here hx rfl (hb hby d4_18) rfl rfl) ?_
  show own_Go p e below _ (T1.setTop (mkF m 19 #[.val (.ref b), .val (.int n), .val (.ref a1)] [(.ref b)]))
  refine own_go (fun _ => XS.iconst X1.here hx rfl (hb hby d4_19)) ?_
  show own_Go p e below _ (T1.setTop (mkF m 20 #[.val (.ref b), .val (.int n), .val (.ref a1)] [(.int (0 : Int32)), (.ref b)]))
  refine own_go (fun _ => XS.aloadN X1.here hx rfl (hb hby d4_20) rfl rfl) ?_
  show own_Go p e below _ (T1.setTop (mkF m 21 #[.val (.ref b), .val (.int n), .val (.ref a1)] [(.ref a1), (.int (0 : Int32)), (.ref b)]))
  refine own_go (fun _ => XS.iconst X1.here hx rfl (hb hby d4_21)) ?_
  show own_Go p e below _ (T1.setTop (mkF m 22 #[.val (.ref b), .val (.int n), .val (.ref a1)] [(.int (0 : Int32)), (.ref a1), (.int (0 : Int32)), (.ref b)]))
  refine own_go (fun _ => XS.aloadN X1.here hx rfl (hb hby d4_22) rfl rfl) ?_
  show own_Go p e below _ (T1.setTop (mkF m 23 #[.val (.ref b), .val (.int n), .val (.ref a1)] [(.ref b), (.int (0 : Int32)), (.ref a1), (.int (0 : Int32)), (.ref b)]))
  refine own_go (own_len X1 hx hZ e1 r_A_1 (g := (mkF m 23 #[.val (.ref b), .val (.int n), .val (.ref a1)] [(.ref b), (.int (0 : Int32)), (.ref a1), (.int (0 : Int32)), (.ref b)])) rfl rfl (hb hby d4_23) z ez) ?_
  show own_Go p e below _ (T1.setTop (mkF m 24 #[.val (.ref b), .val (.int n), .val (.ref a1)] [(.int z), (.int (0 : Int32)), (.ref a1), (.int (0 : Int32)), (.ref b)]))
  refine own_go (fun _ => XS.iloadN X1.here hx rfl (hb hby d4_24) rfl) ?_
  show own_Go p e below _ (T1.setTop (mkF m 25 #[.val (.ref b), .val (.int n), .val (.ref a1)] [(.int n), (.int z), (.int (0 : Int32)), (.ref a1), (.int (0 : Int32)), (.ref b)]))
  obtain ⟨T2, X2, e2, st2⟩ := own_callSP X1 hx hZ hown (argsL := [(.int z), (.int n)]) (rest := [(.int (0 : Int32)), (.ref a1), (.int (0 : Int32)), (.ref b)]) (own_min_con l Z a0 hw z n h1 []) e1 (hw _ (List.mem_of_getElem? (i := 24) rfl)) (hw _ (List.mem_of_getElem? (i := 25) rfl)) (hw _ (List.mem_of_getElem? (i := 26) rfl)) (hw _ (List.mem_of_getElem? (i := 27) rfl)) (by decide) (by decide +kernel : parseMethodDescriptor "(II)I" = some ⟨[.int, .int], some .int⟩) rfl (g := (mkF m 25 #[.val (.ref b), .val (.int n), .val (.ref a1)] [(.int n), (.int z), (.int (0 : Int32)), (.ref a1), (.int (0 : Int32)), (.ref b)])) rfl (by rw [hml]; rfl) rfl 4 (by show 2 * 0 + _ ≤ _; exact Nat.le_of_eq rfl) (hb hby d4_25) (by decide) (by decide) rfl rfl (by decide) (by decide)
  refine own_go st2 ?_
  show own_Go p e below _ (T2.setTop (mkF m 28 #[.val (.ref b), .val (.int n), .val (.ref a1)] [(.int (own_min z n)), (.int (0 : Int32)), (.ref a1), (.int (0 : Int32)), (.ref b)]))
  have em : (own_min z n).toInt = ((min us.length j : Nat) : Int) := by
    have := own_min_toInt z n
    omega
  obtain ⟨T3, h3, L3, X3, e3, N3, Kc3, A3, st3⟩ := own_copy X2 hx hZ hown (hw _ (List.mem_of_getElem? (i := 28) rfl)) (hw _ (List.mem_of_getElem? (i := 31) rfl)) (hw _ (List.mem_of_getElem? (i := 29) rfl)) (hw _ (List.mem_of_getElem? (i := 30) rfl)) e2 r_A_1 A1 rfl (g := (mkF m 28 #[.val (.ref b), .val (.int n), .val (.ref a1)] [(.int (own_min z n)), (.int (0 : Int32)), (.ref a1), (.int (0 : Int32)), (.ref b)])) rfl (by rw [hml]; rfl) rfl (hb hby d4_28) 0 0 (min us.length j) (by decide) (by decide) em (by omega) (by rw [List.length_replicate]; omega) N0 (by rw [q1]; exact gn) 0 (by show 2 * 0 + _ ≤ _; exact Nat.le_of_eq rfl) (by decide) (by decide)
  have r_A_3 := r_A_1.keep Kc3 (ninS ne_b_a1 nin0)
  have n_E_3 := C1.keep Kc3
  have K3 := K1.trans Kc3 (allS (Or.inr (Nat.le_of_eq q1.symm)) all0)
  refine own_go st3 ?_
  show own_Go p e below _ (T3.setTop (mkF m 31 #[.val (.ref b), .val (.int n), .val (.ref a1)] []))
  refine own_go (fun _ => XS.aloadN X3.here hx rfl (hb hby d4_31) rfl rfl) ?_
  show own_Go p e below _ (T3.setTop (mkF m 32 #[.val (.ref b), .val (.int n), .val (.ref a1)] [(.ref a1)]))
  have AR : own_AV Z h3 a1 .int (us.take j ++ List.replicate (j - us.length) (.int 0)) := by
    rw [← own_cut us j]
    exact A3
  exact own_aret X3 hx hlk hret rfl rfl (hb hby d4_32) (by decide) (by decide) (by rw [e3]; exact ⟨by rw [q1], N3, K3, q1 ▸ AR, q1 ▸ n_E_3⟩)
theorem d3_0 : decode prog_3_method_5_code 0 = .ok (.aload_n 0, 1) := by decide +kernel
theorem d3_1 : decode prog_3_method_5_code 1 = .ok (.getfield 7, 3) := by decide +kernel
theorem d3_4 : decode prog_3_method_5_code 4 = .ok (.aload_n 0, 1) := by decide +kernel
theorem d3_5 : decode prog_3_method_5_code 5 = .ok (.getfield 13, 3) := by decide +kernel
theorem d3_8 : decode prog_3_method_5_code 8 = .ok (.invokestatic 17, 3) := by decide +kernel
theorem d3_11 : decode prog_3_method_5_code 11 = .ok (.areturn, 1) := by decide +kernel
set_option maxRecDepth 65536 in
set_option maxHeartbeats 40000000 in
theorem own_toArray_con (l : Launch) (Z : State) (a0 : Array Value) (hw : ∀ d ∈ tables_1, d.before a0 Z = true) (a b : Addr) (us : List Value) (n : Int32) (j n0 : Nat) (h0 : Heap) (I0 : own_Ids Z h0 a b us n) (hj : n.toInt = j) (hlt : j < us.length) (hcap : j ≤ 4) (gn : n0 ≤ h0.size) (ws : List Jvm.Cond) :
    own_Con l Z (⟨"com/example/secure_model_views/securemodelviews/Ids", "toArray", "()[I"⟩ : MethodName) prog_3_method_5_code 1 (some (.array .int)) ({ frames := 2, cells := 1, slots := 4, locals := 80 } : Room) #[(.ref a)] h0 (fun v h L => v = some (.ref h0.size) ∧ Fr n0 L ∧ Keep h0 h [] ∧ own_AV Z h h0.size .int (us.take j) ∧ Exa Z h h0.size "[I") ws := by
  refine own_con (F := fun m => (mkF m 0 #[.val (.ref a)] [])) (own_pn (by first | (simp [plainName, overriddenIn]; done) | decide +kernel)) (fun m => by first | (simp [entryFrame, mkF, argsToLocals, Value.category]; done) | rfl) ?_
  intro p e s m below meth c T X hx hby hml hZ hown hnm hret hlk eT
  show own_Go p e below (own_Out s (fun v h L => v = some (.ref h0.size) ∧ Fr n0 L ∧ Keep h0 h [] ∧ own_AV Z h h0.size .int (us.take j) ∧ Exa Z h h0.size "[I") ({ frames := 2, cells := 1, slots := 4, locals := 80 } : Room).cells ({ frames := 2, cells := 1, slots := 4, locals := 80 } : Room).slots) (T.setTop (mkF m 0 #[.val (.ref a)] []))
  obtain ⟨o_E0, o_ids0, o_size0, r_A0, r_E0, ne_a_b⟩ := I0
  have N0 := Fr.nil n0
  refine own_go (fun _ => XS.aloadN X.here hx rfl (hb hby d3_0) rfl rfl) ?_
  show own_Go p e below _ (T.setTop (mkF m 1 #[.val (.ref a)] [(.ref a)]))
  obtain ⟨T1, X1, e1, st1⟩ := getF X hx hZ hown (host := "") (Or.inl (hw _ (List.mem_of_getElem? (i := 11) rfl))) Via.refl eT o_ids0 (g := (mkF m 1 #[.val (.ref a)] [(.ref a)])) rfl rfl (hb hby d3_1)
  refine own_go st1 ?_
  show own_Go p e below _ (T1.setTop (mkF m 4 #[.val (.ref a)] [(.ref b)]))
  refine own_go (fun _ => XS.aloadN X1.here hx rfl (hb hby d3_4) rfl rfl) ?_
  show own_Go p e below _ (T1.setTop (mkF m 5 #[.val (.ref a)] [(.ref a), (.ref b)]))
  obtain ⟨T2, X2, e2, st2⟩ := getF X1 hx hZ hown (host := "") (Or.inl (hw _ (List.mem_of_getElem? (i := 18) rfl))) Via.refl e1 o_size0 (g := (mkF m 5 #[.val (.ref a)] [(.ref a), (.ref b)])) rfl rfl (hb hby d3_5)
  refine own_go st2 ?_
  show own_Go p e below _ (T2.setTop (mkF m 8 #[.val (.ref a)] [(.int n), (.ref b)]))
  obtain ⟨_, T3, L3, X3, ⟨rfl, Nc3, Kc3, Ac3, Cc3⟩, st3⟩ := own_callS X2 hx hZ hown (argsL := [(.ref b), (.int n)]) (rest := []) (own_copyOf_con l Z a0 hw b us n j n0 h0 r_A0 hj hcap (Nat.ne_of_lt hlt) gn []) e2 (hw _ (List.mem_of_getElem? (i := 20) rfl)) (hw _ (List.mem_of_getElem? (i := 21) rfl)) (hw _ (List.mem_of_getElem? (i := 22) rfl)) (hw _ (List.mem_of_getElem? (i := 23) rfl)) (by decide) (by decide +kernel : parseMethodDescriptor "([II)[I" = some ⟨[(.array .int), .int], (some (.array .int))⟩) rfl (g := (mkF m 8 #[.val (.ref a)] [(.int n), (.ref b)])) rfl (by rw [hml]; rfl) rfl 0 (by show 2 * 0 + _ ≤ _; exact Nat.le_of_eq rfl) (hb hby d3_8) (by decide) (by decide) (by decide) (by decide)
  have N3 := Fr.app N0 Nc3
  have o_E_3 := o_E0.keep Kc3
  have o_ids_3 := o_ids0.keep Kc3 nin0
  have o_size_3 := o_size0.keep Kc3 nin0
  have r_A_3 := r_A0.keep Kc3 nin0
  have r_E_3 := r_E0.keep Kc3
  refine own_go st3 ?_
  show own_Go p e below _ (T3.setTop (mkF m 11 #[.val (.ref a)] [(.ref h0.size)]))
  rw [show j - us.length = 0 by omega, List.replicate_zero, List.append_nil] at Ac3
  exact own_aret X3 hx hlk hret rfl rfl (hb hby d3_11) (by decide) (by decide) ⟨rfl, N3, Kc3, Ac3, Cc3⟩
theorem d6_0 : decode method_3_code 0 = .ok (.aload_n 0, 1) := by decide +kernel
theorem d6_1 : decode method_3_code 1 = .ok (.ifnonnull 5, 3) := by decide +kernel
theorem d6_6 : decode method_3_code 6 = .ok (.aload_n 0, 1) := by decide +kernel
theorem d6_7 : decode method_3_code 7 = .ok (.arraylength, 1) := by decide +kernel
theorem d6_8 : decode method_3_code 8 = .ok (.iload_n 1, 1) := by decide +kernel
theorem d6_9 : decode method_3_code 9 = .ok (.if_icmp .eq 5, 3) := by decide +kernel
theorem d6_14 : decode method_3_code 14 = .ok (.iload_n 1, 1) := by decide +kernel
theorem d6_15 : decode method_3_code 15 = .ok (.ifCond .le 12, 3) := by decide +kernel
theorem d6_18 : decode method_3_code 18 = .ok (.aload_n 0, 1) := by decide +kernel
theorem d6_19 : decode method_3_code 19 = .ok (.iconst 0, 1) := by decide +kernel
theorem d6_20 : decode method_3_code 20 = .ok (.iaload, 1) := by decide +kernel
theorem d6_21 : decode method_3_code 21 = .ok (.iload_n 2, 1) := by decide +kernel
theorem d6_22 : decode method_3_code 22 = .ok (.if_icmp .eq 5, 3) := by decide +kernel
theorem d6_27 : decode method_3_code 27 = .ok (.iload_n 1, 1) := by decide +kernel
theorem d6_28 : decode method_3_code 28 = .ok (.iconst 1, 1) := by decide +kernel
theorem d6_29 : decode method_3_code 29 = .ok (.if_icmp .le 12, 3) := by decide +kernel
theorem d6_32 : decode method_3_code 32 = .ok (.aload_n 0, 1) := by decide +kernel
theorem d6_33 : decode method_3_code 33 = .ok (.iconst 1, 1) := by decide +kernel
theorem d6_34 : decode method_3_code 34 = .ok (.iaload, 1) := by decide +kernel
theorem d6_35 : decode method_3_code 35 = .ok (.iload_n 3, 1) := by decide +kernel
theorem d6_36 : decode method_3_code 36 = .ok (.if_icmp .eq 5, 3) := by decide +kernel
theorem d6_41 : decode method_3_code 41 = .ok (.iload_n 1, 1) := by decide +kernel
theorem d6_42 : decode method_3_code 42 = .ok (.iconst 2, 1) := by decide +kernel
theorem d6_43 : decode method_3_code 43 = .ok (.if_icmp .le 13, 3) := by decide +kernel
theorem d6_46 : decode method_3_code 46 = .ok (.aload_n 0, 1) := by decide +kernel
theorem d6_47 : decode method_3_code 47 = .ok (.iconst 2, 1) := by decide +kernel
theorem d6_48 : decode method_3_code 48 = .ok (.iaload, 1) := by decide +kernel
theorem d6_49 : decode method_3_code 49 = .ok (.iload 4, 2) := by decide +kernel
theorem d6_51 : decode method_3_code 51 = .ok (.if_icmp .eq 5, 3) := by decide +kernel
theorem d6_56 : decode method_3_code 56 = .ok (.iload_n 1, 1) := by decide +kernel
theorem d6_57 : decode method_3_code 57 = .ok (.iconst 3, 1) := by decide +kernel
theorem d6_58 : decode method_3_code 58 = .ok (.if_icmp .le 13, 3) := by decide +kernel
theorem d6_61 : decode method_3_code 61 = .ok (.aload_n 0, 1) := by decide +kernel
theorem d6_62 : decode method_3_code 62 = .ok (.iconst 3, 1) := by decide +kernel
theorem d6_63 : decode method_3_code 63 = .ok (.iaload, 1) := by decide +kernel
theorem d6_64 : decode method_3_code 64 = .ok (.iload 5, 2) := by decide +kernel
theorem d6_66 : decode method_3_code 66 = .ok (.if_icmp .eq 5, 3) := by decide +kernel
theorem d6_71 : decode method_3_code 71 = .ok (.iconst 1, 1) := by decide +kernel
theorem d6_72 : decode method_3_code 72 = .ok (.ireturn, 1) := by decide +kernel
set_option maxRecDepth 65536 in
set_option maxHeartbeats 40000000 in
theorem own_matches_con (l : Launch) (Z : State) (a0 : Array Value) (hw : ∀ d ∈ tables_1, d.before a0 Z = true) (r : Addr) (vs : List Value) (n y0 y1 y2 y3 : Int32) (h0 : Heap) (r_A0 : own_AV Z h0 r .int vs) (hz : n.toInt = vs.length) (g0 : 0 < vs.length → vs[0]? = some (.int y0)) (g1 : 1 < vs.length → vs[1]? = some (.int y1)) (g2 : 2 < vs.length → vs[2]? = some (.int y2)) (g3 : 3 < vs.length → vs[3]? = some (.int y3)) (ws : List Jvm.Cond) :
    own_Con l Z (⟨"com/example/secure_model_views/securemodelviews/IdsToArrayPinLaw", "matches", "([IIIIII)Z"⟩ : MethodName) method_3_code 6 (some .boolean) ({ frames := 0, cells := 0, slots := 0, locals := 0 } : Room) #[(.ref r), (.int n), (.int y0), (.int y1), (.int y2), (.int y3)] h0 (own_PQ h0 (.int 1)) ws := by
  refine own_con (F := fun m => (mkF m 0 #[.val (.ref r), .val (.int n), .val (.int y0), .val (.int y1), .val (.int y2), .val (.int y3)] [])) (own_pn (by first | (simp [plainName, overriddenIn]; done) | decide +kernel)) (fun m => by first | (simp [entryFrame, mkF, argsToLocals, Value.category]; done) | rfl) ?_
  intro p e s m below meth c T X hx hby hml hZ hown hnm hret hlk eT
  show own_Go p e below (own_Out s (own_PQ h0 (.int 1)) ({ frames := 0, cells := 0, slots := 0, locals := 0 } : Room).cells ({ frames := 0, cells := 0, slots := 0, locals := 0 } : Room).slots) (T.setTop (mkF m 0 #[.val (.ref r), .val (.int n), .val (.int y0), .val (.int y1), .val (.int y2), .val (.int y3)] []))
  have G71 : own_Go p e below (own_Out s (own_PQ h0 (.int 1)) 0 0) (T.setTop (mkF m 71 #[.val (.ref r), .val (.int n), .val (.int y0), .val (.int y1), .val (.int y2), .val (.int y3)] [])) := by
    refine own_go (fun _ => XS.iconst X.here hx rfl (hb hby d6_71)) ?_
    show own_Go p e below _ (T.setTop (mkF m 72 #[.val (.ref r), .val (.int n), .val (.int y0), .val (.int y1), .val (.int y2), .val (.int y3)] [(.int (1 : Int32))]))
    exact own_iret X hx hlk hret (Or.inr (Or.inl rfl)) rfl (hb hby d6_72) (Nat.zero_le _) (Nat.zero_le _) ⟨rfl, eT, rfl⟩
  have G56 : own_Go p e below (own_Out s (own_PQ h0 (.int 1)) 0 0) (T.setTop (mkF m 56 #[.val (.ref r), .val (.int n), .val (.int y0), .val (.int y1), .val (.int y2), .val (.int y3)] [])) := by
    refine own_go (fun _ => XS.iloadN X.here hx rfl (hb hby d6_56) rfl) ?_
    show own_Go p e below _ (T.setTop (mkF m 57 #[.val (.ref r), .val (.int n), .val (.int y0), .val (.int y1), .val (.int y2), .val (.int y3)] [(.int n)]))
    refine own_go (fun _ => XS.iconst X.here hx rfl (hb hby d6_57)) ?_
    show own_Go p e below _ (T.setTop (mkF m 58 #[.val (.ref r), .val (.int n), .val (.int y0), .val (.int y1), .val (.int y2), .val (.int y3)] [(.int (3 : Int32)), (.int n)]))
    by_cases hc : (3 : Int32) < n
    · skip
      have hl : 3 < vs.length := by rw [Int32.lt_iff_toInt_lt, hz] at hc; simp only [Int32.reduceToInt] at hc; omega
      refine own_go (fun _ => XS.icmpNo X.here hx rfl (hb hby d6_58) rfl (XT.ii_le_f hc)) ?_
      show own_Go p e below _ (T.setTop (mkF m 61 #[.val (.ref r), .val (.int n), .val (.int y0), .val (.int y1), .val (.int y2), .val (.int y3)] []))
      refine own_go (fun _ => XS.aloadN X.here hx rfl (hb hby d6_61) rfl rfl) ?_
      show own_Go p e below _ (T.setTop (mkF m 62 #[.val (.ref r), .val (.int n), .val (.int y0), .val (.int y1), .val (.int y2), .val (.int y3)] [(.ref r)]))
      refine own_go (fun _ => XS.iconst X.here hx rfl (hb hby d6_62)) ?_
      show own_Go p e below _ (T.setTop (mkF m 63 #[.val (.ref r), .val (.int n), .val (.int y0), .val (.int y1), .val (.int y2), .val (.int y3)] [(.int (3 : Int32)), (.ref r)]))
      refine own_go (own_ldI X hx hZ eT r_A0 (g := (mkF m 63 #[.val (.ref r), .val (.int n), .val (.int y0), .val (.int y1), .val (.int y2), .val (.int y3)] [(.int (3 : Int32)), (.ref r)])) rfl rfl (hb hby d6_63) 3 (by decide) (x := (.int y3)) (g3 hl)) ?_
      show own_Go p e below _ (T.setTop (mkF m 64 #[.val (.ref r), .val (.int n), .val (.int y0), .val (.int y1), .val (.int y2), .val (.int y3)] [(.int y3)]))
      refine own_go (fun _ => XS.iload X.here hx rfl (hb hby d6_64) rfl) ?_
      show own_Go p e below _ (T.setTop (mkF m 66 #[.val (.ref r), .val (.int n), .val (.int y0), .val (.int y1), .val (.int y2), .val (.int y3)] [(.int y3), (.int y3)]))
      refine own_go (fun _ => XS.icmpYes X.here hx rfl (pc0 := 66) (pc' := 71) rfl (hb hby d6_66) rfl (XT.ii_eq_t rfl) (by decide) (by decide)) ?_
      show own_Go p e below _ (T.setTop (mkF m 71 #[.val (.ref r), .val (.int n), .val (.int y0), .val (.int y1), .val (.int y2), .val (.int y3)] []))
      exact G71
    · skip
      refine own_go (fun _ => XS.icmpYes X.here hx rfl (pc0 := 58) (pc' := 71) rfl (hb hby d6_58) rfl (XT.ii_le_t hc) (by decide) (by decide)) ?_
      show own_Go p e below _ (T.setTop (mkF m 71 #[.val (.ref r), .val (.int n), .val (.int y0), .val (.int y1), .val (.int y2), .val (.int y3)] []))
      exact G71
  have G41 : own_Go p e below (own_Out s (own_PQ h0 (.int 1)) 0 0) (T.setTop (mkF m 41 #[.val (.ref r), .val (.int n), .val (.int y0), .val (.int y1), .val (.int y2), .val (.int y3)] [])) := by
    refine own_go (fun _ => XS.iloadN X.here hx rfl (hb hby d6_41) rfl) ?_
    show own_Go p e below _ (T.setTop (mkF m 42 #[.val (.ref r), .val (.int n), .val (.int y0), .val (.int y1), .val (.int y2), .val (.int y3)] [(.int n)]))
    refine own_go (fun _ => XS.iconst X.here hx rfl (hb hby d6_42)) ?_
    show own_Go p e below _ (T.setTop (mkF m 43 #[.val (.ref r), .val (.int n), .val (.int y0), .val (.int y1), .val (.int y2), .val (.int y3)] [(.int (2 : Int32)), (.int n)]))
    by_cases hc : (2 : Int32) < n
    · skip
      have hl : 2 < vs.length := by rw [Int32.lt_iff_toInt_lt, hz] at hc; simp only [Int32.reduceToInt] at hc; omega
      refine own_go (fun _ => XS.icmpNo X.here hx rfl (hb hby d6_43) rfl (XT.ii_le_f hc)) ?_
      show own_Go p e below _ (T.setTop (mkF m 46 #[.val (.ref r), .val (.int n), .val (.int y0), .val (.int y1), .val (.int y2), .val (.int y3)] []))
      refine own_go (fun _ => XS.aloadN X.here hx rfl (hb hby d6_46) rfl rfl) ?_
      show own_Go p e below _ (T.setTop (mkF m 47 #[.val (.ref r), .val (.int n), .val (.int y0), .val (.int y1), .val (.int y2), .val (.int y3)] [(.ref r)]))
      refine own_go (fun _ => XS.iconst X.here hx rfl (hb hby d6_47)) ?_
      show own_Go p e below _ (T.setTop (mkF m 48 #[.val (.ref r), .val (.int n), .val (.int y0), .val (.int y1), .val (.int y2), .val (.int y3)] [(.int (2 : Int32)), (.ref r)]))
      refine own_go (own_ldI X hx hZ eT r_A0 (g := (mkF m 48 #[.val (.ref r), .val (.int n), .val (.int y0), .val (.int y1), .val (.int y2), .val (.int y3)] [(.int (2 : Int32)), (.ref r)])) rfl rfl (hb hby d6_48) 2 (by decide) (x := (.int y2)) (g2 hl)) ?_
      show own_Go p e below _ (T.setTop (mkF m 49 #[.val (.ref r), .val (.int n), .val (.int y0), .val (.int y1), .val (.int y2), .val (.int y3)] [(.int y2)]))
      refine own_go (fun _ => XS.iload X.here hx rfl (hb hby d6_49) rfl) ?_
      show own_Go p e below _ (T.setTop (mkF m 51 #[.val (.ref r), .val (.int n), .val (.int y0), .val (.int y1), .val (.int y2), .val (.int y3)] [(.int y2), (.int y2)]))
      refine own_go (fun _ => XS.icmpYes X.here hx rfl (pc0 := 51) (pc' := 56) rfl (hb hby d6_51) rfl (XT.ii_eq_t rfl) (by decide) (by decide)) ?_
      show own_Go p e below _ (T.setTop (mkF m 56 #[.val (.ref r), .val (.int n), .val (.int y0), .val (.int y1), .val (.int y2), .val (.int y3)] []))
      exact G56
    · skip
      refine own_go (fun _ => XS.icmpYes X.here hx rfl (pc0 := 43) (pc' := 56) rfl (hb hby d6_43) rfl (XT.ii_le_t hc) (by decide) (by decide)) ?_
      show own_Go p e below _ (T.setTop (mkF m 56 #[.val (.ref r), .val (.int n), .val (.int y0), .val (.int y1), .val (.int y2), .val (.int y3)] []))
      exact G56
  have G27 : own_Go p e below (own_Out s (own_PQ h0 (.int 1)) 0 0) (T.setTop (mkF m 27 #[.val (.ref r), .val (.int n), .val (.int y0), .val (.int y1), .val (.int y2), .val (.int y3)] [])) := by
    refine own_go (fun _ => XS.iloadN X.here hx rfl (hb hby d6_27) rfl) ?_
    show own_Go p e below _ (T.setTop (mkF m 28 #[.val (.ref r), .val (.int n), .val (.int y0), .val (.int y1), .val (.int y2), .val (.int y3)] [(.int n)]))
    refine own_go (fun _ => XS.iconst X.here hx rfl (hb hby d6_28)) ?_
    show own_Go p e below _ (T.setTop (mkF m 29 #[.val (.ref r), .val (.int n), .val (.int y0), .val (.int y1), .val (.int y2), .val (.int y3)] [(.int (1 : Int32)), (.int n)]))
    by_cases hc : (1 : Int32) < n
    · skip
      have hl : 1 < vs.length := by rw [Int32.lt_iff_toInt_lt, hz] at hc; simp only [Int32.reduceToInt] at hc; omega
      refine own_go (fun _ => XS.icmpNo X.here hx rfl (hb hby d6_29) rfl (XT.ii_le_f hc)) ?_
      show own_Go p e below _ (T.setTop (mkF m 32 #[.val (.ref r), .val (.int n), .val (.int y0), .val (.int y1), .val (.int y2), .val (.int y3)] []))
      refine own_go (fun _ => XS.aloadN X.here hx rfl (hb hby d6_32) rfl rfl) ?_
      show own_Go p e below _ (T.setTop (mkF m 33 #[.val (.ref r), .val (.int n), .val (.int y0), .val (.int y1), .val (.int y2), .val (.int y3)] [(.ref r)]))
      refine own_go (fun _ => XS.iconst X.here hx rfl (hb hby d6_33)) ?_
      show own_Go p e below _ (T.setTop (mkF m 34 #[.val (.ref r), .val (.int n), .val (.int y0), .val (.int y1), .val (.int y2), .val (.int y3)] [(.int (1 : Int32)), (.ref r)]))
      refine own_go (own_ldI X hx hZ eT r_A0 (g := (mkF m 34 #[.val (.ref r), .val (.int n), .val (.int y0), .val (.int y1), .val (.int y2), .val (.int y3)] [(.int (1 : Int32)), (.ref r)])) rfl rfl (hb hby d6_34) 1 (by decide) (x := (.int y1)) (g1 hl)) ?_
      show own_Go p e below _ (T.setTop (mkF m 35 #[.val (.ref r), .val (.int n), .val (.int y0), .val (.int y1), .val (.int y2), .val (.int y3)] [(.int y1)]))
      refine own_go (fun _ => XS.iloadN X.here hx rfl (hb hby d6_35) rfl) ?_
      show own_Go p e below _ (T.setTop (mkF m 36 #[.val (.ref r), .val (.int n), .val (.int y0), .val (.int y1), .val (.int y2), .val (.int y3)] [(.int y1), (.int y1)]))
      refine own_go (fun _ => XS.icmpYes X.here hx rfl (pc0 := 36) (pc' := 41) rfl (hb hby d6_36) rfl (XT.ii_eq_t rfl) (by decide) (by decide)) ?_
      show own_Go p e below _ (T.setTop (mkF m 41 #[.val (.ref r), .val (.int n), .val (.int y0), .val (.int y1), .val (.int y2), .val (.int y3)] []))
      exact G41
    · skip
      refine own_go (fun _ => XS.icmpYes X.here hx rfl (pc0 := 29) (pc' := 41) rfl (hb hby d6_29) rfl (XT.ii_le_t hc) (by decide) (by decide)) ?_
      show own_Go p e below _ (T.setTop (mkF m 41 #[.val (.ref r), .val (.int n), .val (.int y0), .val (.int y1), .val (.int y2), .val (.int y3)] []))
      exact G41
  have G14 : own_Go p e below (own_Out s (own_PQ h0 (.int 1)) 0 0) (T.setTop (mkF m 14 #[.val (.ref r), .val (.int n), .val (.int y0), .val (.int y1), .val (.int y2), .val (.int y3)] [])) := by
    refine own_go (fun _ => XS.iloadN X.here hx rfl (hb hby d6_14) rfl) ?_
    show own_Go p e below _ (T.setTop (mkF m 15 #[.val (.ref r), .val (.int n), .val (.int y0), .val (.int y1), .val (.int y2), .val (.int y3)] [(.int n)]))
    by_cases hc : (0 : Int32) < n
    · skip
      have hl : 0 < vs.length := by rw [Int32.lt_iff_toInt_lt, hz] at hc; simp only [Int32.reduceToInt] at hc; omega
      refine own_go (fun _ => XS.ifNo X.here hx rfl (hb hby d6_15) rfl (XT.i0_le_f hc)) ?_
      show own_Go p e below _ (T.setTop (mkF m 18 #[.val (.ref r), .val (.int n), .val (.int y0), .val (.int y1), .val (.int y2), .val (.int y3)] []))
      refine own_go (fun _ => XS.aloadN X.here hx rfl (hb hby d6_18) rfl rfl) ?_
      show own_Go p e below _ (T.setTop (mkF m 19 #[.val (.ref r), .val (.int n), .val (.int y0), .val (.int y1), .val (.int y2), .val (.int y3)] [(.ref r)]))
      refine own_go (fun _ => XS.iconst X.here hx rfl (hb hby d6_19)) ?_
      show own_Go p e below _ (T.setTop (mkF m 20 #[.val (.ref r), .val (.int n), .val (.int y0), .val (.int y1), .val (.int y2), .val (.int y3)] [(.int (0 : Int32)), (.ref r)]))
      refine own_go (own_ldI X hx hZ eT r_A0 (g := (mkF m 20 #[.val (.ref r), .val (.int n), .val (.int y0), .val (.int y1), .val (.int y2), .val (.int y3)] [(.int (0 : Int32)), (.ref r)])) rfl rfl (hb hby d6_20) 0 (by decide) (x := (.int y0)) (g0 hl)) ?_
      show own_Go p e below _ (T.setTop (mkF m 21 #[.val (.ref r), .val (.int n), .val (.int y0), .val (.int y1), .val (.int y2), .val (.int y3)] [(.int y0)]))
      refine own_go (fun _ => XS.iloadN X.here hx rfl (hb hby d6_21) rfl) ?_
      show own_Go p e below _ (T.setTop (mkF m 22 #[.val (.ref r), .val (.int n), .val (.int y0), .val (.int y1), .val (.int y2), .val (.int y3)] [(.int y0), (.int y0)]))
      refine own_go (fun _ => XS.icmpYes X.here hx rfl (pc0 := 22) (pc' := 27) rfl (hb hby d6_22) rfl (XT.ii_eq_t rfl) (by decide) (by decide)) ?_
      show own_Go p e below _ (T.setTop (mkF m 27 #[.val (.ref r), .val (.int n), .val (.int y0), .val (.int y1), .val (.int y2), .val (.int y3)] []))
      exact G27
    · skip
      refine own_go (fun _ => XS.ifYes X.here hx rfl (pc0 := 15) (pc' := 27) rfl (hb hby d6_15) rfl (XT.i0_le_t hc) (by decide) (by decide)) ?_
      show own_Go p e below _ (T.setTop (mkF m 27 #[.val (.ref r), .val (.int n), .val (.int y0), .val (.int y1), .val (.int y2), .val (.int y3)] []))
      exact G27
  refine own_go (fun _ => XS.aloadN X.here hx rfl (hb hby d6_0) rfl rfl) ?_
  show own_Go p e below _ (T.setTop (mkF m 1 #[.val (.ref r), .val (.int n), .val (.int y0), .val (.int y1), .val (.int y2), .val (.int y3)] [(.ref r)]))
  refine own_go (fun _ => XT.ifnonnullYes X.here hx rfl (pc0 := 1) (pc' := 6) rfl (hb hby d6_1) rfl (by decide) (by decide)) ?_
  show own_Go p e below _ (T.setTop (mkF m 6 #[.val (.ref r), .val (.int n), .val (.int y0), .val (.int y1), .val (.int y2), .val (.int y3)] []))
  refine own_go (fun _ => XS.aloadN X.here hx rfl (hb hby d6_6) rfl rfl) ?_
  show own_Go p e below _ (T.setTop (mkF m 7 #[.val (.ref r), .val (.int n), .val (.int y0), .val (.int y1), .val (.int y2), .val (.int y3)] [(.ref r)]))
  refine own_go (own_len X hx hZ eT r_A0 (g := (mkF m 7 #[.val (.ref r), .val (.int n), .val (.int y0), .val (.int y1), .val (.int y2), .val (.int y3)] [(.ref r)])) rfl rfl (hb hby d6_7) n hz) ?_
  show own_Go p e below _ (T.setTop (mkF m 8 #[.val (.ref r), .val (.int n), .val (.int y0), .val (.int y1), .val (.int y2), .val (.int y3)] [(.int n)]))
  refine own_go (fun _ => XS.iloadN X.here hx rfl (hb hby d6_8) rfl) ?_
  show own_Go p e below _ (T.setTop (mkF m 9 #[.val (.ref r), .val (.int n), .val (.int y0), .val (.int y1), .val (.int y2), .val (.int y3)] [(.int n), (.int n)]))
  refine own_go (fun _ => XS.icmpYes X.here hx rfl (pc0 := 9) (pc' := 14) rfl (hb hby d6_9) rfl (XT.ii_eq_t rfl) (by decide) (by decide)) ?_
  show own_Go p e below _ (T.setTop (mkF m 14 #[.val (.ref r), .val (.int n), .val (.int y0), .val (.int y1), .val (.int y2), .val (.int y3)] []))
  exact G14
theorem own_five (x : Int32) : (x &&& (2147483647 : Int32)) - ((x &&& (2147483647 : Int32)) / (5 : Int32)) * (5 : Int32) = 0 ∨ (x &&& (2147483647 : Int32)) - ((x &&& (2147483647 : Int32)) / (5 : Int32)) * (5 : Int32) = 1 ∨ (x &&& (2147483647 : Int32)) - ((x &&& (2147483647 : Int32)) / (5 : Int32)) * (5 : Int32) = 2 ∨ (x &&& (2147483647 : Int32)) - ((x &&& (2147483647 : Int32)) / (5 : Int32)) * (5 : Int32) = 3 ∨ (x &&& (2147483647 : Int32)) - ((x &&& (2147483647 : Int32)) / (5 : Int32)) * (5 : Int32) = 4 := by
  have hz := (c_and x (2147483647 : Int32) (by decide)).1
  generalize x &&& (2147483647 : Int32) = z at *
  have d1 := (c_idiv z 5 5 (by decide) (by decide)).1 hz
  have d2 := c_imul (z / (5 : Int32)) 5
  have d3 := c_isub z ((z / (5 : Int32)) * (5 : Int32))
  have b1 := z.toInt_lt
  have b2 := ((z / (5 : Int32)) * (5 : Int32)).toInt_lt
  have b3 := ((z / (5 : Int32)) * (5 : Int32)).le_toInt
  have b4 := (z - (z / (5 : Int32)) * (5 : Int32)).toInt_lt
  have b5 := (z - (z / (5 : Int32)) * (5 : Int32)).le_toInt
  have l5 : (5 : Int32).toInt = 5 := by decide
  rw [l5, d1] at d2
  simp only [← Int32.toInt_inj]
  simp only [Int32.reduceToInt]
  omega
def own_Q1 (n0 : Nat) (v : Option Value) (h : Heap) (L : List Loc) : Prop := v = some (.int 1) ∧ Fr n0 L
set_option maxRecDepth 65536 in
set_option maxHeartbeats 40000000 in
theorem own_main_con (l : Launch) (Z : State) (a0 : Array Value) (hw : ∀ d ∈ tables_1, d.before a0 Z = true) (x0 : Int32) (x1 : Int32) (x2 : Int32) (x3 : Int32) (x4 : Int32)  (h0 : Heap) (ws : List Jvm.Cond) :
    own_Con l Z x code maxLocals ret room_1 #[(.int x0), (.int x1), (.int x2), (.int x3), (.int x4)] h0 (own_Q1 h0.size) ws := by
  refine own_con (F := fun m => (mkF m 0 #[.val (.int x0), .val (.int x1), .val (.int x2), .val (.int x3), .val (.int x4), .unset, .unset, .unset, .unset] [])) (own_pn (by first | (simp [plainName, overriddenIn]; done) | decide +kernel)) (fun m => by first | (simp [entryFrame, mkF, argsToLocals, Value.category, maxLocals]; done) | rfl) ?_
  intro p e s m below meth c T X hx hby hml hZ hown hnm hret hlk eT
  show own_Go p e below (own_Out s (own_Q1 h0.size) room_1.cells room_1.slots) (T.setTop (mkF m 0 #[.val (.int x0), .val (.int x1), .val (.int x2), .val (.int x3), .val (.int x4), .unset, .unset, .unset, .unset] []))
  have N0 := Fr.nil h0.size
  refine own_go (fun _ => XS.iload X.here hx rfl (hb hby at_0) rfl) ?_
  show own_Go p e below _ (T.setTop (mkF m 2 #[.val (.int x0), .val (.int x1), .val (.int x2), .val (.int x3), .val (.int x4), .unset, .unset, .unset, .unset] [(.int x4)]))
  refine own_go (X.ldcInt hx hown (mvT hZ (hw _ (List.mem_of_getElem? (i := 0) rfl))) (g := (mkF m 2 #[.val (.int x0), .val (.int x1), .val (.int x2), .val (.int x3), .val (.int x4), .unset, .unset, .unset, .unset] [(.int x4)])) rfl (hb hby at_2)) ?_
  show own_Go p e below _ (T.setTop (mkF m 4 #[.val (.int x0), .val (.int x1), .val (.int x2), .val (.int x3), .val (.int x4), .unset, .unset, .unset, .unset] [(.int (2147483647 : Int32)), (.int x4)]))
  refine own_go (fun _ => XS.iand X.here hx rfl (hb hby at_4) rfl) ?_
  show own_Go p e below _ (T.setTop (mkF m 5 #[.val (.int x0), .val (.int x1), .val (.int x2), .val (.int x3), .val (.int x4), .unset, .unset, .unset, .unset] [(.int (x4 &&& (2147483647 : Int32)))]))
  refine own_go (fun _ => XS.iconst X.here hx rfl (hb hby at_5)) ?_
  show own_Go p e below _ (T.setTop (mkF m 6 #[.val (.int x0), .val (.int x1), .val (.int x2), .val (.int x3), .val (.int x4), .unset, .unset, .unset, .unset] [(.int (5 : Int32)), (.int (x4 &&& (2147483647 : Int32)))]))
  refine own_go (fun _ => XS.irem X.here hx rfl (hb hby at_6) rfl (by decide)) ?_
  show own_Go p e below _ (T.setTop (mkF m 7 #[.val (.int x0), .val (.int x1), .val (.int x2), .val (.int x3), .val (.int x4), .unset, .unset, .unset, .unset] [(.int ((x4 &&& (2147483647 : Int32)) - ((x4 &&& (2147483647 : Int32)) / (5 : Int32)) * (5 : Int32)))]))
  rcases own_five x4 with hn | hn | hn | hn | hn
  · skip
    rw [hn]
    show own_Go p e below _ (T.setTop (mkF m 7 #[.val (.int x0), .val (.int x1), .val (.int x2), .val (.int x3), .val (.int x4), .unset, .unset, .unset, .unset] [(.int (0 : Int32))]))
    refine own_go (fun _ => XS.istore X.here hx rfl (hb hby at_7) rfl (l' := #[.val (.int x0), .val (.int x1), .val (.int x2), .val (.int x3), .val (.int x4), .val (.int (0 : Int32)), .unset, .unset, .unset]) rfl) ?_
    show own_Go p e below _ (T.setTop (mkF m 9 #[.val (.int x0), .val (.int x1), .val (.int x2), .val (.int x3), .val (.int x4), .val (.int (0 : Int32)), .unset, .unset, .unset] []))
    obtain ⟨T1, h1, X1, e1, E1, C1, D1, -, st1⟩ := newO X hx hZ hown (hw _ (List.mem_of_getElem? (i := 1) rfl)) (hw _ (List.mem_of_getElem? (i := 2) rfl)) (hw _ (List.mem_of_getElem? (i := 3) rfl)) eT (g := (mkF m 9 #[.val (.int x0), .val (.int x1), .val (.int x2), .val (.int x3), .val (.int x4), .val (.int (0 : Int32)), .unset, .unset, .unset] [])) rfl (hb hby at_9) (by decide) (by decide)
    obtain ⟨a1, q1⟩ : ∃ z, z = h0.size := ⟨_, rfl⟩
    rw [← q1] at C1 D1 st1
    have o_ids_1 := D1 (Or.inl (hw _ (List.mem_of_getElem? (i := 12) rfl))) (ty := (.array .int)) (by decide)
    have o_size_1 := D1 (Or.inl (hw _ (List.mem_of_getElem? (i := 19) rfl))) (ty := .int) (by decide)
    refine own_go st1 ?_
    show own_Go p e below _ (T1.setTop (mkF m 12 #[.val (.int x0), .val (.int x1), .val (.int x2), .val (.int x3), .val (.int x4), .val (.int (0 : Int32)), .unset, .unset, .unset] [(.ref a1)]))
    refine own_go (fun _ => XS.dup X1.here hx rfl (hb hby at_12) rfl rfl) ?_
    show own_Go p e below _ (T1.setTop (mkF m 13 #[.val (.int x0), .val (.int x1), .val (.int x2), .val (.int x3), .val (.int x4), .val (.int (0 : Int32)), .unset, .unset, .unset] [(.ref a1), (.ref a1)]))
    have ga : h0.size ≤ a1 := Nat.le_of_eq q1.symm
    have gn : h0.size ≤ h1.size := E1.1
    obtain ⟨b, hbv⟩ : ∃ z, z = h1.size := ⟨_, rfl⟩
    obtain ⟨_, T2, L2, X2, ⟨rfl, Nc2, Kc2, I2⟩, st2⟩ := own_callI X1 hx hZ hown rfl (argsL := []) (rest := [(.ref a1)]) (own_init_con l Z a0 hw a1 h0.size h1 C1 o_ids_1 o_size_1 ga gn []) e1 (hw _ (List.mem_of_getElem? (i := 4) rfl)) (hw _ (List.mem_of_getElem? (i := 5) rfl)) (hw _ (List.mem_of_getElem? (i := 3) rfl)) (hw _ (List.mem_of_getElem? (i := 6) rfl)) (by decide) (by decide +kernel : parseMethodDescriptor "()V" = some ⟨[], none⟩) rfl (g := (mkF m 13 #[.val (.int x0), .val (.int x1), .val (.int x2), .val (.int x3), .val (.int x4), .val (.int (0 : Int32)), .unset, .unset, .unset] [(.ref a1), (.ref a1)])) rfl (by rw [hml]; rfl) rfl 1 (by show 2 * 0 + _ ≤ _; exact Nat.le_of_eq rfl) (hb hby at_13) (by decide) (by decide) (by decide) (by decide)
    have N2 := Fr.app N0 Nc2
    have o_E_2 := C1.keep Kc2
    refine own_go st2 ?_
    show own_Go p e below _ (T2.setTop (mkF m 16 #[.val (.int x0), .val (.int x1), .val (.int x2), .val (.int x3), .val (.int x4), .val (.int (0 : Int32)), .unset, .unset, .unset] [(.ref a1)]))
    rw [← hbv] at I2
    have gb : h0.size ≤ b := by rw [hbv]; exact gn
    refine own_go (fun _ => XS.astore X2.here hx rfl (hb hby at_16) rfl rfl (l' := #[.val (.int x0), .val (.int x1), .val (.int x2), .val (.int x3), .val (.int x4), .val (.int (0 : Int32)), .val (.ref a1), .unset, .unset]) rfl) ?_
    show own_Go p e below _ (T2.setTop (mkF m 18 #[.val (.int x0), .val (.int x1), .val (.int x2), .val (.int x3), .val (.int x4), .val (.int (0 : Int32)), .val (.ref a1), .unset, .unset] []))
    refine own_go (fun _ => XS.iload X2.here hx rfl (hb hby at_18) rfl) ?_
    show own_Go p e below _ (T2.setTop (mkF m 20 #[.val (.int x0), .val (.int x1), .val (.int x2), .val (.int x3), .val (.int x4), .val (.int (0 : Int32)), .val (.ref a1), .unset, .unset] [(.int (0 : Int32))]))
    refine own_go (fun _ => XS.ifYes X2.here hx rfl (pc0 := 20) (pc' := 29) rfl (hb hby at_20) rfl (XT.i0_le_t (by decide)) (by decide) (by decide)) ?_
    show own_Go p e below _ (T2.setTop (mkF m 29 #[.val (.int x0), .val (.int x1), .val (.int x2), .val (.int x3), .val (.int x4), .val (.int (0 : Int32)), .val (.ref a1), .unset, .unset] []))
    refine own_go (fun _ => XS.iload X2.here hx rfl (hb hby at_29) rfl) ?_
    show own_Go p e below _ (T2.setTop (mkF m 31 #[.val (.int x0), .val (.int x1), .val (.int x2), .val (.int x3), .val (.int x4), .val (.int (0 : Int32)), .val (.ref a1), .unset, .unset] [(.int (0 : Int32))]))
    refine own_go (fun _ => XS.iconst X2.here hx rfl (hb hby at_31)) ?_
    show own_Go p e below _ (T2.setTop (mkF m 32 #[.val (.int x0), .val (.int x1), .val (.int x2), .val (.int x3), .val (.int x4), .val (.int (0 : Int32)), .val (.ref a1), .unset, .unset] [(.int (1 : Int32)), (.int (0 : Int32))]))
    refine own_go (fun _ => XS.icmpYes X2.here hx rfl (pc0 := 32) (pc' := 41) rfl (hb hby at_32) rfl (XT.ii_le_t (by decide)) (by decide) (by decide)) ?_
    show own_Go p e below _ (T2.setTop (mkF m 41 #[.val (.int x0), .val (.int x1), .val (.int x2), .val (.int x3), .val (.int x4), .val (.int (0 : Int32)), .val (.ref a1), .unset, .unset] []))
    refine own_go (fun _ => XS.iload X2.here hx rfl (hb hby at_41) rfl) ?_
    show own_Go p e below _ (T2.setTop (mkF m 43 #[.val (.int x0), .val (.int x1), .val (.int x2), .val (.int x3), .val (.int x4), .val (.int (0 : Int32)), .val (.ref a1), .unset, .unset] [(.int (0 : Int32))]))
    refine own_go (fun _ => XS.iconst X2.here hx rfl (hb hby at_43)) ?_
    show own_Go p e below _ (T2.setTop (mkF m 44 #[.val (.int x0), .val (.int x1), .val (.int x2), .val (.int x3), .val (.int x4), .val (.int (0 : Int32)), .val (.ref a1), .unset, .unset] [(.int (2 : Int32)), (.int (0 : Int32))]))
    refine own_go (fun _ => XS.icmpYes X2.here hx rfl (pc0 := 44) (pc' := 53) rfl (hb hby at_44) rfl (XT.ii_le_t (by decide)) (by decide) (by decide)) ?_
    show own_Go p e below _ (T2.setTop (mkF m 53 #[.val (.int x0), .val (.int x1), .val (.int x2), .val (.int x3), .val (.int x4), .val (.int (0 : Int32)), .val (.ref a1), .unset, .unset] []))
    refine own_go (fun _ => XS.iload X2.here hx rfl (hb hby at_53) rfl) ?_
    show own_Go p e below _ (T2.setTop (mkF m 55 #[.val (.int x0), .val (.int x1), .val (.int x2), .val (.int x3), .val (.int x4), .val (.int (0 : Int32)), .val (.ref a1), .unset, .unset] [(.int (0 : Int32))]))
    refine own_go (fun _ => XS.iconst X2.here hx rfl (hb hby at_55)) ?_
    show own_Go p e below _ (T2.setTop (mkF m 56 #[.val (.int x0), .val (.int x1), .val (.int x2), .val (.int x3), .val (.int x4), .val (.int (0 : Int32)), .val (.ref a1), .unset, .unset] [(.int (3 : Int32)), (.int (0 : Int32))]))
    refine own_go (fun _ => XS.icmpYes X2.here hx rfl (pc0 := 56) (pc' := 65) rfl (hb hby at_56) rfl (XT.ii_le_t (by decide)) (by decide) (by decide)) ?_
    show own_Go p e below _ (T2.setTop (mkF m 65 #[.val (.int x0), .val (.int x1), .val (.int x2), .val (.int x3), .val (.int x4), .val (.int (0 : Int32)), .val (.ref a1), .unset, .unset] []))
    refine own_go (fun _ => XS.aload X2.here hx rfl (hb hby at_65) rfl rfl) ?_
    show own_Go p e below _ (T2.setTop (mkF m 67 #[.val (.int x0), .val (.int x1), .val (.int x2), .val (.int x3), .val (.int x4), .val (.int (0 : Int32)), .val (.ref a1), .unset, .unset] [(.ref a1)]))
    have g1 : h0.size ≤ T2.heap.size := Nat.le_trans gb (Nat.le_of_lt I2.2.2.2.1.lt)
    have ne1 : b ≠ T2.heap.size := Nat.ne_of_lt I2.2.2.2.1.lt
    have ne2 : a1 ≠ T2.heap.size := Nat.ne_of_lt I2.1.lt
    obtain ⟨r, hr⟩ : ∃ z, z = T2.heap.size := ⟨_, rfl⟩
    obtain ⟨ey, _⟩ := id I2
    obtain ⟨_, T3, L3, X3, ⟨rfl, Nc3, Kc3, Ac3, Cc3⟩, st3⟩ := own_callV X2 hx hZ hown (argsL := []) (rest := []) (own_toArray_con l Z a0 hw a1 b (List.replicate 16 (.int 0)) (0 : Int32) 0 h0.size T2.heap I2 (by decide) (by simp) (by decide) g1 []) rfl ey (hw _ (List.mem_of_getElem? (i := 13) rfl)) (hw _ (List.mem_of_getElem? (i := 14) rfl)) (hw _ (List.mem_of_getElem? (i := 16) rfl)) (hw _ (List.mem_of_getElem? (i := 15) rfl)) (hw _ (List.mem_of_getElem? (i := 3) rfl)) (hw _ (List.mem_of_getElem? (i := 17) rfl)) (notFace_of_selects (args := #[]) (mvT hZ (hw _ (List.mem_of_getElem? (i := 16) rfl)))) (by decide) (by decide +kernel : parseMethodDescriptor "()[I" = some ⟨[], (some (.array .int))⟩) rfl (g := (mkF m 67 #[.val (.int x0), .val (.int x1), .val (.int x2), .val (.int x3), .val (.int x4), .val (.int (0 : Int32)), .val (.ref a1), .unset, .unset] [(.ref a1)])) rfl (by rw [hml]; rfl) rfl 0 (by show 2 * 0 + _ ≤ _; exact Nat.le_of_eq rfl) (hb hby at_67) (by decide) (by decide) (by decide) (by decide)
    have N3 := Fr.app N2 Nc3
    have o_E_3 := ey.keep Kc3
    rw [← hr] at Ac3 Cc3 ne1 ne2 st3
    refine own_go st3 ?_
    show own_Go p e below _ (T3.setTop (mkF m 70 #[.val (.int x0), .val (.int x1), .val (.int x2), .val (.int x3), .val (.int x4), .val (.int (0 : Int32)), .val (.ref a1), .unset, .unset] [(.ref r)]))
    have A1 : own_AV Z T3.heap r .int [] := Ac3
    have I2 : own_Ids Z T3.heap a1 b (List.replicate 16 (.int 0)) (0 : Int32) := ⟨I2.1.keep Kc3, I2.2.1.keep Kc3 nin0, I2.2.2.1.keep Kc3 nin0, I2.2.2.2.1.keep Kc3 nin0, I2.2.2.2.2.1.keep Kc3, I2.2.2.2.2.2⟩
    have gr : h0.size ≤ r := by rw [hr]; exact g1
    refine own_go (fun _ => XS.astore X3.here hx rfl (hb hby at_70) rfl rfl (l' := #[.val (.int x0), .val (.int x1), .val (.int x2), .val (.int x3), .val (.int x4), .val (.int (0 : Int32)), .val (.ref a1), .val (.ref r), .unset]) rfl) ?_
    show own_Go p e below _ (T3.setTop (mkF m 72 #[.val (.int x0), .val (.int x1), .val (.int x2), .val (.int x3), .val (.int x4), .val (.int (0 : Int32)), .val (.ref a1), .val (.ref r), .unset] []))
    refine own_go (fun _ => XS.aload X3.here hx rfl (hb hby at_72) rfl rfl) ?_
    show own_Go p e below _ (T3.setTop (mkF m 74 #[.val (.int x0), .val (.int x1), .val (.int x2), .val (.int x3), .val (.int x4), .val (.int (0 : Int32)), .val (.ref a1), .val (.ref r), .unset] [(.ref r)]))
    refine own_go (fun _ => XS.iload X3.here hx rfl (hb hby at_74) rfl) ?_
    show own_Go p e below _ (T3.setTop (mkF m 76 #[.val (.int x0), .val (.int x1), .val (.int x2), .val (.int x3), .val (.int x4), .val (.int (0 : Int32)), .val (.ref a1), .val (.ref r), .unset] [(.int (0 : Int32)), (.ref r)]))
    refine own_go (fun _ => XS.iloadN X3.here hx rfl (hb hby at_76) rfl) ?_
    show own_Go p e below _ (T3.setTop (mkF m 77 #[.val (.int x0), .val (.int x1), .val (.int x2), .val (.int x3), .val (.int x4), .val (.int (0 : Int32)), .val (.ref a1), .val (.ref r), .unset] [(.int x0), (.int (0 : Int32)), (.ref r)]))
    refine own_go (fun _ => XS.iloadN X3.here hx rfl (hb hby at_77) rfl) ?_
    show own_Go p e below _ (T3.setTop (mkF m 78 #[.val (.int x0), .val (.int x1), .val (.int x2), .val (.int x3), .val (.int x4), .val (.int (0 : Int32)), .val (.ref a1), .val (.ref r), .unset] [(.int x1), (.int x0), (.int (0 : Int32)), (.ref r)]))
    refine own_go (fun _ => XS.iloadN X3.here hx rfl (hb hby at_78) rfl) ?_
    show own_Go p e below _ (T3.setTop (mkF m 79 #[.val (.int x0), .val (.int x1), .val (.int x2), .val (.int x3), .val (.int x4), .val (.int (0 : Int32)), .val (.ref a1), .val (.ref r), .unset] [(.int x2), (.int x1), (.int x0), (.int (0 : Int32)), (.ref r)]))
    refine own_go (fun _ => XS.iloadN X3.here hx rfl (hb hby at_79) rfl) ?_
    show own_Go p e below _ (T3.setTop (mkF m 80 #[.val (.int x0), .val (.int x1), .val (.int x2), .val (.int x3), .val (.int x4), .val (.int (0 : Int32)), .val (.ref a1), .val (.ref r), .unset] [(.int x3), (.int x2), (.int x1), (.int x0), (.int (0 : Int32)), (.ref r)]))
    obtain ⟨_, T4, L4, X4, ⟨rfl, eh4, rfl⟩, st4⟩ := own_callS X3 hx hZ hown (argsL := [(.ref r), (.int (0 : Int32)), (.int x0), (.int x1), (.int x2), (.int x3)]) (rest := []) (own_matches_con l Z a0 hw r [] (0 : Int32) x0 x1 x2 x3 T3.heap A1 (by first | rfl | simp) (fun q => absurd q (by simp)) (fun q => absurd q (by simp)) (fun q => absurd q (by simp)) (fun q => absurd q (by simp)) []) rfl (hw _ (List.mem_of_getElem? (i := 32) rfl)) (hw _ (List.mem_of_getElem? (i := 33) rfl)) (hw _ (List.mem_of_getElem? (i := 34) rfl)) (hw _ (List.mem_of_getElem? (i := 35) rfl)) (by decide) (by decide +kernel : parseMethodDescriptor "([IIIIII)Z" = some ⟨[(.array .int), .int, .int, .int, .int, .int], some .boolean⟩) rfl (g := (mkF m 80 #[.val (.int x0), .val (.int x1), .val (.int x2), .val (.int x3), .val (.int x4), .val (.int (0 : Int32)), .val (.ref a1), .val (.ref r), .unset] [(.int x3), (.int x2), (.int x1), (.int x0), (.int (0 : Int32)), (.ref r)])) rfl (by rw [hml]; rfl) rfl 0 (by show 2 * 0 + _ ≤ _; exact Nat.le_of_eq rfl) (hb hby at_80) (by decide) (by decide) (by decide) (by decide)
    rw [List.append_nil] at X4
    refine own_go st4 ?_
    show own_Go p e below _ (T4.setTop (mkF m 83 #[.val (.int x0), .val (.int x1), .val (.int x2), .val (.int x3), .val (.int x4), .val (.int (0 : Int32)), .val (.ref a1), .val (.ref r), .unset] [(.int (1 : Int32))]))
    refine own_go (fun _ => XS.ifYes X4.here hx rfl (pc0 := 83) (pc' := 88) rfl (hb hby at_83) rfl (XT.i0_ne_t (by decide)) (by decide) (by decide)) ?_
    show own_Go p e below _ (T4.setTop (mkF m 88 #[.val (.int x0), .val (.int x1), .val (.int x2), .val (.int x3), .val (.int x4), .val (.int (0 : Int32)), .val (.ref a1), .val (.ref r), .unset] []))
    refine own_go (fun _ => XS.iload X4.here hx rfl (hb hby at_88) rfl) ?_
    show own_Go p e below _ (T4.setTop (mkF m 90 #[.val (.int x0), .val (.int x1), .val (.int x2), .val (.int x3), .val (.int x4), .val (.int (0 : Int32)), .val (.ref a1), .val (.ref r), .unset] [(.int (0 : Int32))]))
    refine own_go (fun _ => XS.ifYes X4.here hx rfl (pc0 := 90) (pc' := 103) rfl (hb hby at_90) rfl (XT.i0_le_t (by decide)) (by decide) (by decide)) ?_
    show own_Go p e below _ (T4.setTop (mkF m 103 #[.val (.int x0), .val (.int x1), .val (.int x2), .val (.int x3), .val (.int x4), .val (.int (0 : Int32)), .val (.ref a1), .val (.ref r), .unset] []))
    have rl : r < T3.heap.size := A1.lt
    refine own_go (fun _ => XS.aload X4.here hx rfl (hb hby at_103) rfl rfl) ?_
    show own_Go p e below _ (T4.setTop (mkF m 105 #[.val (.int x0), .val (.int x1), .val (.int x2), .val (.int x3), .val (.int x4), .val (.int (0 : Int32)), .val (.ref a1), .val (.ref r), .unset] [(.ref a1)]))
    obtain ⟨ez, _⟩ := id I2
    have g2 : h0.size ≤ T3.heap.size := Nat.le_trans gb (Nat.le_of_lt I2.2.2.2.1.lt)
    obtain ⟨r2, hr2⟩ : ∃ z, z = T3.heap.size := ⟨_, rfl⟩
    obtain ⟨_, T5, L5, X5, ⟨rfl, Nc5, Kc5, Ac5, Cc5⟩, st5⟩ := own_callV X4 hx hZ hown (argsL := []) (rest := []) (own_toArray_con l Z a0 hw a1 b (List.replicate 16 (.int 0)) (0 : Int32) 0 h0.size T3.heap I2 (by decide) (by simp) (by decide) g2 []) eh4 ez (hw _ (List.mem_of_getElem? (i := 13) rfl)) (hw _ (List.mem_of_getElem? (i := 14) rfl)) (hw _ (List.mem_of_getElem? (i := 16) rfl)) (hw _ (List.mem_of_getElem? (i := 15) rfl)) (hw _ (List.mem_of_getElem? (i := 3) rfl)) (hw _ (List.mem_of_getElem? (i := 17) rfl)) (notFace_of_selects (args := #[]) (mvT hZ (hw _ (List.mem_of_getElem? (i := 16) rfl)))) (by decide) (by decide +kernel : parseMethodDescriptor "()[I" = some ⟨[], (some (.array .int))⟩) rfl (g := (mkF m 105 #[.val (.int x0), .val (.int x1), .val (.int x2), .val (.int x3), .val (.int x4), .val (.int (0 : Int32)), .val (.ref a1), .val (.ref r), .unset] [(.ref a1)])) rfl (by rw [hml]; rfl) rfl 0 (by show 2 * 0 + _ ≤ _; exact Nat.le_of_eq rfl) (hb hby at_105) (by decide) (by decide) (by decide) (by decide)
    have N5 := Fr.app N3 Nc5
    have o_E_5 := ez.keep Kc5
    rw [← hr2] at Ac5 Cc5 st5 rl
    refine own_go st5 ?_
    show own_Go p e below _ (T5.setTop (mkF m 108 #[.val (.int x0), .val (.int x1), .val (.int x2), .val (.int x3), .val (.int x4), .val (.int (0 : Int32)), .val (.ref a1), .val (.ref r), .unset] [(.ref r2)]))
    have A2 : own_AV Z T5.heap r2 .int [] := Ac5
    refine own_go (fun _ => XS.astore X5.here hx rfl (hb hby at_108) rfl rfl (l' := #[.val (.int x0), .val (.int x1), .val (.int x2), .val (.int x3), .val (.int x4), .val (.int (0 : Int32)), .val (.ref a1), .val (.ref r), .val (.ref r2)]) rfl) ?_
    show own_Go p e below _ (T5.setTop (mkF m 110 #[.val (.int x0), .val (.int x1), .val (.int x2), .val (.int x3), .val (.int x4), .val (.int (0 : Int32)), .val (.ref a1), .val (.ref r), .val (.ref r2)] []))
    refine own_go (fun _ => XS.aload X5.here hx rfl (hb hby at_110) rfl rfl) ?_
    show own_Go p e below _ (T5.setTop (mkF m 112 #[.val (.int x0), .val (.int x1), .val (.int x2), .val (.int x3), .val (.int x4), .val (.int (0 : Int32)), .val (.ref a1), .val (.ref r), .val (.ref r2)] [(.ref r2)]))
    refine own_go (fun _ => XS.aload X5.here hx rfl (hb hby at_112) rfl rfl) ?_
    show own_Go p e below _ (T5.setTop (mkF m 114 #[.val (.int x0), .val (.int x1), .val (.int x2), .val (.int x3), .val (.int x4), .val (.int (0 : Int32)), .val (.ref a1), .val (.ref r), .val (.ref r2)] [(.ref r), (.ref r2)]))
    refine own_go (fun _ => XT.acmpYes X5.here hx rfl (pc0 := 114) (pc' := 119) rfl (hb hby at_114) rfl rfl rfl (XT.aa_ne_t (fun z => absurd rl (by cases z; exact Nat.lt_irrefl _))) (by decide) (by decide)) ?_
    show own_Go p e below _ (T5.setTop (mkF m 119 #[.val (.int x0), .val (.int x1), .val (.int x2), .val (.int x3), .val (.int x4), .val (.int (0 : Int32)), .val (.ref a1), .val (.ref r), .val (.ref r2)] []))
    refine own_go (fun _ => XS.aload X5.here hx rfl (hb hby at_119) rfl rfl) ?_
    show own_Go p e below _ (T5.setTop (mkF m 121 #[.val (.int x0), .val (.int x1), .val (.int x2), .val (.int x3), .val (.int x4), .val (.int (0 : Int32)), .val (.ref a1), .val (.ref r), .val (.ref r2)] [(.ref r2)]))
    refine own_go (fun _ => XS.iload X5.here hx rfl (hb hby at_121) rfl) ?_
    show own_Go p e below _ (T5.setTop (mkF m 123 #[.val (.int x0), .val (.int x1), .val (.int x2), .val (.int x3), .val (.int x4), .val (.int (0 : Int32)), .val (.ref a1), .val (.ref r), .val (.ref r2)] [(.int (0 : Int32)), (.ref r2)]))
    refine own_go (fun _ => XS.iloadN X5.here hx rfl (hb hby at_123) rfl) ?_
    show own_Go p e below _ (T5.setTop (mkF m 124 #[.val (.int x0), .val (.int x1), .val (.int x2), .val (.int x3), .val (.int x4), .val (.int (0 : Int32)), .val (.ref a1), .val (.ref r), .val (.ref r2)] [(.int x0), (.int (0 : Int32)), (.ref r2)]))
    refine own_go (fun _ => XS.iloadN X5.here hx rfl (hb hby at_124) rfl) ?_
    show own_Go p e below _ (T5.setTop (mkF m 125 #[.val (.int x0), .val (.int x1), .val (.int x2), .val (.int x3), .val (.int x4), .val (.int (0 : Int32)), .val (.ref a1), .val (.ref r), .val (.ref r2)] [(.int x1), (.int x0), (.int (0 : Int32)), (.ref r2)]))
    refine own_go (fun _ => XS.iloadN X5.here hx rfl (hb hby at_125) rfl) ?_
    show own_Go p e below _ (T5.setTop (mkF m 126 #[.val (.int x0), .val (.int x1), .val (.int x2), .val (.int x3), .val (.int x4), .val (.int (0 : Int32)), .val (.ref a1), .val (.ref r), .val (.ref r2)] [(.int x2), (.int x1), (.int x0), (.int (0 : Int32)), (.ref r2)]))
    refine own_go (fun _ => XS.iloadN X5.here hx rfl (hb hby at_126) rfl) ?_
    show own_Go p e below _ (T5.setTop (mkF m 127 #[.val (.int x0), .val (.int x1), .val (.int x2), .val (.int x3), .val (.int x4), .val (.int (0 : Int32)), .val (.ref a1), .val (.ref r), .val (.ref r2)] [(.int x3), (.int x2), (.int x1), (.int x0), (.int (0 : Int32)), (.ref r2)]))
    obtain ⟨_, T6, L6, X6, ⟨rfl, eh6, rfl⟩, st6⟩ := own_callS X5 hx hZ hown (argsL := [(.ref r2), (.int (0 : Int32)), (.int x0), (.int x1), (.int x2), (.int x3)]) (rest := []) (own_matches_con l Z a0 hw r2 [] (0 : Int32) x0 x1 x2 x3 T5.heap A2 (by first | rfl | simp) (fun q => absurd q (by simp)) (fun q => absurd q (by simp)) (fun q => absurd q (by simp)) (fun q => absurd q (by simp)) []) rfl (hw _ (List.mem_of_getElem? (i := 32) rfl)) (hw _ (List.mem_of_getElem? (i := 33) rfl)) (hw _ (List.mem_of_getElem? (i := 34) rfl)) (hw _ (List.mem_of_getElem? (i := 35) rfl)) (by decide) (by decide +kernel : parseMethodDescriptor "([IIIIII)Z" = some ⟨[(.array .int), .int, .int, .int, .int, .int], some .boolean⟩) rfl (g := (mkF m 127 #[.val (.int x0), .val (.int x1), .val (.int x2), .val (.int x3), .val (.int x4), .val (.int (0 : Int32)), .val (.ref a1), .val (.ref r), .val (.ref r2)] [(.int x3), (.int x2), (.int x1), (.int x0), (.int (0 : Int32)), (.ref r2)])) rfl (by rw [hml]; rfl) rfl 0 (by show 2 * 0 + _ ≤ _; exact Nat.le_of_eq rfl) (hb hby at_127) (by decide) (by decide) (by decide) (by decide)
    rw [List.append_nil] at X6
    refine own_go st6 ?_
    show own_Go p e below _ (T6.setTop (mkF m 130 #[.val (.int x0), .val (.int x1), .val (.int x2), .val (.int x3), .val (.int x4), .val (.int (0 : Int32)), .val (.ref a1), .val (.ref r), .val (.ref r2)] [(.int (1 : Int32))]))
    exact own_iret X6 hx hlk hret (Or.inr (Or.inl rfl)) rfl (hb hby at_130) (by decide) (by decide) ⟨rfl, N5⟩
  · skip
    rw [hn]
    show own_Go p e below _ (T.setTop (mkF m 7 #[.val (.int x0), .val (.int x1), .val (.int x2), .val (.int x3), .val (.int x4), .unset, .unset, .unset, .unset] [(.int (1 : Int32))]))
    refine own_go (fun _ => XS.istore X.here hx rfl (hb hby at_7) rfl (l' := #[.val (.int x0), .val (.int x1), .val (.int x2), .val (.int x3), .val (.int x4), .val (.int (1 : Int32)), .unset, .unset, .unset]) rfl) ?_
    show own_Go p e below _ (T.setTop (mkF m 9 #[.val (.int x0), .val (.int x1), .val (.int x2), .val (.int x3), .val (.int x4), .val (.int (1 : Int32)), .unset, .unset, .unset] []))
    obtain ⟨T7, h7, X7, e7, E7, C7, D7, -, st7⟩ := newO X hx hZ hown (hw _ (List.mem_of_getElem? (i := 1) rfl)) (hw _ (List.mem_of_getElem? (i := 2) rfl)) (hw _ (List.mem_of_getElem? (i := 3) rfl)) eT (g := (mkF m 9 #[.val (.int x0), .val (.int x1), .val (.int x2), .val (.int x3), .val (.int x4), .val (.int (1 : Int32)), .unset, .unset, .unset] [])) rfl (hb hby at_9) (by decide) (by decide)
    obtain ⟨a7, q7⟩ : ∃ z, z = h0.size := ⟨_, rfl⟩
    rw [← q7] at C7 D7 st7
    have o_ids_7 := D7 (Or.inl (hw _ (List.mem_of_getElem? (i := 12) rfl))) (ty := (.array .int)) (by decide)
    have o_size_7 := D7 (Or.inl (hw _ (List.mem_of_getElem? (i := 19) rfl))) (ty := .int) (by decide)
    refine own_go st7 ?_
    show own_Go p e below _ (T7.setTop (mkF m 12 #[.val (.int x0), .val (.int x1), .val (.int x2), .val (.int x3), .val (.int x4), .val (.int (1 : Int32)), .unset, .unset, .unset] [(.ref a7)]))
    refine own_go (fun _ => XS.dup X7.here hx rfl (hb hby at_12) rfl rfl) ?_
    show own_Go p e below _ (T7.setTop (mkF m 13 #[.val (.int x0), .val (.int x1), .val (.int x2), .val (.int x3), .val (.int x4), .val (.int (1 : Int32)), .unset, .unset, .unset] [(.ref a7), (.ref a7)]))
    have ga : h0.size ≤ a7 := Nat.le_of_eq q7.symm
    have gn : h0.size ≤ h7.size := E7.1
    obtain ⟨b, hbv⟩ : ∃ z, z = h7.size := ⟨_, rfl⟩
    obtain ⟨_, T8, L8, X8, ⟨rfl, Nc8, Kc8, I8⟩, st8⟩ := own_callI X7 hx hZ hown rfl (argsL := []) (rest := [(.ref a7)]) (own_init_con l Z a0 hw a7 h0.size h7 C7 o_ids_7 o_size_7 ga gn []) e7 (hw _ (List.mem_of_getElem? (i := 4) rfl)) (hw _ (List.mem_of_getElem? (i := 5) rfl)) (hw _ (List.mem_of_getElem? (i := 3) rfl)) (hw _ (List.mem_of_getElem? (i := 6) rfl)) (by decide) (by decide +kernel : parseMethodDescriptor "()V" = some ⟨[], none⟩) rfl (g := (mkF m 13 #[.val (.int x0), .val (.int x1), .val (.int x2), .val (.int x3), .val (.int x4), .val (.int (1 : Int32)), .unset, .unset, .unset] [(.ref a7), (.ref a7)])) rfl (by rw [hml]; rfl) rfl 1 (by show 2 * 0 + _ ≤ _; exact Nat.le_of_eq rfl) (hb hby at_13) (by decide) (by decide) (by decide) (by decide)
    have N8 := Fr.app N0 Nc8
    have o_E_8 := C7.keep Kc8
    refine own_go st8 ?_
    show own_Go p e below _ (T8.setTop (mkF m 16 #[.val (.int x0), .val (.int x1), .val (.int x2), .val (.int x3), .val (.int x4), .val (.int (1 : Int32)), .unset, .unset, .unset] [(.ref a7)]))
    rw [← hbv] at I8
    have gb : h0.size ≤ b := by rw [hbv]; exact gn
    refine own_go (fun _ => XS.astore X8.here hx rfl (hb hby at_16) rfl rfl (l' := #[.val (.int x0), .val (.int x1), .val (.int x2), .val (.int x3), .val (.int x4), .val (.int (1 : Int32)), .val (.ref a7), .unset, .unset]) rfl) ?_
    show own_Go p e below _ (T8.setTop (mkF m 18 #[.val (.int x0), .val (.int x1), .val (.int x2), .val (.int x3), .val (.int x4), .val (.int (1 : Int32)), .val (.ref a7), .unset, .unset] []))
    refine own_go (fun _ => XS.iload X8.here hx rfl (hb hby at_18) rfl) ?_
    show own_Go p e below _ (T8.setTop (mkF m 20 #[.val (.int x0), .val (.int x1), .val (.int x2), .val (.int x3), .val (.int x4), .val (.int (1 : Int32)), .val (.ref a7), .unset, .unset] [(.int (1 : Int32))]))
    refine own_go (fun _ => XS.ifNo X8.here hx rfl (hb hby at_20) rfl (XT.i0_le_f (by decide))) ?_
    show own_Go p e below _ (T8.setTop (mkF m 23 #[.val (.int x0), .val (.int x1), .val (.int x2), .val (.int x3), .val (.int x4), .val (.int (1 : Int32)), .val (.ref a7), .unset, .unset] []))
    refine own_go (fun _ => XS.aload X8.here hx rfl (hb hby at_23) rfl rfl) ?_
    show own_Go p e below _ (T8.setTop (mkF m 25 #[.val (.int x0), .val (.int x1), .val (.int x2), .val (.int x3), .val (.int x4), .val (.int (1 : Int32)), .val (.ref a7), .unset, .unset] [(.ref a7)]))
    refine own_go (fun _ => XS.iloadN X8.here hx rfl (hb hby at_25) rfl) ?_
    show own_Go p e below _ (T8.setTop (mkF m 26 #[.val (.int x0), .val (.int x1), .val (.int x2), .val (.int x3), .val (.int x4), .val (.int (1 : Int32)), .val (.ref a7), .unset, .unset] [(.int x0), (.ref a7)]))
    obtain ⟨ex0, _⟩ := id I8
    obtain ⟨_, T9, L9, X9, ⟨rfl, Nc9, Kc9, I9⟩, st9⟩ := own_callV X8 hx hZ hown (argsL := [(.int x0)]) (rest := []) (own_add_con l Z a0 hw a7 b (List.replicate 16 (.int 0)) (0 : Int32) x0 0 h0.size T8.heap I8 (by decide) (by simp) ga gb []) rfl ex0 (hw _ (List.mem_of_getElem? (i := 36) rfl)) (hw _ (List.mem_of_getElem? (i := 37) rfl)) (hw _ (List.mem_of_getElem? (i := 39) rfl)) (hw _ (List.mem_of_getElem? (i := 38) rfl)) (hw _ (List.mem_of_getElem? (i := 3) rfl)) (hw _ (List.mem_of_getElem? (i := 40) rfl)) (notFace_of_selects (args := #[]) (mvT hZ (hw _ (List.mem_of_getElem? (i := 39) rfl)))) (by decide) (by decide +kernel : parseMethodDescriptor "(I)V" = some ⟨[.int], none⟩) rfl (g := (mkF m 26 #[.val (.int x0), .val (.int x1), .val (.int x2), .val (.int x3), .val (.int x4), .val (.int (1 : Int32)), .val (.ref a7), .unset, .unset] [(.int x0), (.ref a7)])) rfl (by rw [hml]; rfl) rfl 0 (by show 2 * 0 + _ ≤ _; exact Nat.le_of_eq rfl) (hb hby at_26) (by decide) (by decide) (by decide) (by decide)
    have N9 := Fr.app N8 Nc9
    have o_E_9 := ex0.keep Kc9
    refine own_go st9 ?_
    show own_Go p e below _ (T9.setTop (mkF m 29 #[.val (.int x0), .val (.int x1), .val (.int x2), .val (.int x3), .val (.int x4), .val (.int (1 : Int32)), .val (.ref a7), .unset, .unset] []))
    refine own_go (fun _ => XS.iload X9.here hx rfl (hb hby at_29) rfl) ?_
    show own_Go p e below _ (T9.setTop (mkF m 31 #[.val (.int x0), .val (.int x1), .val (.int x2), .val (.int x3), .val (.int x4), .val (.int (1 : Int32)), .val (.ref a7), .unset, .unset] [(.int (1 : Int32))]))
    refine own_go (fun _ => XS.iconst X9.here hx rfl (hb hby at_31)) ?_
    show own_Go p e below _ (T9.setTop (mkF m 32 #[.val (.int x0), .val (.int x1), .val (.int x2), .val (.int x3), .val (.int x4), .val (.int (1 : Int32)), .val (.ref a7), .unset, .unset] [(.int (1 : Int32)), (.int (1 : Int32))]))
    refine own_go (fun _ => XS.icmpYes X9.here hx rfl (pc0 := 32) (pc' := 41) rfl (hb hby at_32) rfl (XT.ii_le_t (by decide)) (by decide) (by decide)) ?_
    show own_Go p e below _ (T9.setTop (mkF m 41 #[.val (.int x0), .val (.int x1), .val (.int x2), .val (.int x3), .val (.int x4), .val (.int (1 : Int32)), .val (.ref a7), .unset, .unset] []))
    refine own_go (fun _ => XS.iload X9.here hx rfl (hb hby at_41) rfl) ?_
    show own_Go p e below _ (T9.setTop (mkF m 43 #[.val (.int x0), .val (.int x1), .val (.int x2), .val (.int x3), .val (.int x4), .val (.int (1 : Int32)), .val (.ref a7), .unset, .unset] [(.int (1 : Int32))]))
    refine own_go (fun _ => XS.iconst X9.here hx rfl (hb hby at_43)) ?_
    show own_Go p e below _ (T9.setTop (mkF m 44 #[.val (.int x0), .val (.int x1), .val (.int x2), .val (.int x3), .val (.int x4), .val (.int (1 : Int32)), .val (.ref a7), .unset, .unset] [(.int (2 : Int32)), (.int (1 : Int32))]))
    refine own_go (fun _ => XS.icmpYes X9.here hx rfl (pc0 := 44) (pc' := 53) rfl (hb hby at_44) rfl (XT.ii_le_t (by decide)) (by decide) (by decide)) ?_
    show own_Go p e below _ (T9.setTop (mkF m 53 #[.val (.int x0), .val (.int x1), .val (.int x2), .val (.int x3), .val (.int x4), .val (.int (1 : Int32)), .val (.ref a7), .unset, .unset] []))
    refine own_go (fun _ => XS.iload X9.here hx rfl (hb hby at_53) rfl) ?_
    show own_Go p e below _ (T9.setTop (mkF m 55 #[.val (.int x0), .val (.int x1), .val (.int x2), .val (.int x3), .val (.int x4), .val (.int (1 : Int32)), .val (.ref a7), .unset, .unset] [(.int (1 : Int32))]))
    refine own_go (fun _ => XS.iconst X9.here hx rfl (hb hby at_55)) ?_
    show own_Go p e below _ (T9.setTop (mkF m 56 #[.val (.int x0), .val (.int x1), .val (.int x2), .val (.int x3), .val (.int x4), .val (.int (1 : Int32)), .val (.ref a7), .unset, .unset] [(.int (3 : Int32)), (.int (1 : Int32))]))
    refine own_go (fun _ => XS.icmpYes X9.here hx rfl (pc0 := 56) (pc' := 65) rfl (hb hby at_56) rfl (XT.ii_le_t (by decide)) (by decide) (by decide)) ?_
    show own_Go p e below _ (T9.setTop (mkF m 65 #[.val (.int x0), .val (.int x1), .val (.int x2), .val (.int x3), .val (.int x4), .val (.int (1 : Int32)), .val (.ref a7), .unset, .unset] []))
    refine own_go (fun _ => XS.aload X9.here hx rfl (hb hby at_65) rfl rfl) ?_
    show own_Go p e below _ (T9.setTop (mkF m 67 #[.val (.int x0), .val (.int x1), .val (.int x2), .val (.int x3), .val (.int x4), .val (.int (1 : Int32)), .val (.ref a7), .unset, .unset] [(.ref a7)]))
    have g1 : h0.size ≤ T9.heap.size := Nat.le_trans gb (Nat.le_of_lt I9.2.2.2.1.lt)
    have ne1 : b ≠ T9.heap.size := Nat.ne_of_lt I9.2.2.2.1.lt
    have ne2 : a7 ≠ T9.heap.size := Nat.ne_of_lt I9.1.lt
    obtain ⟨r, hr⟩ : ∃ z, z = T9.heap.size := ⟨_, rfl⟩
    obtain ⟨ey, _⟩ := id I9
    obtain ⟨_, T10, L10, X10, ⟨rfl, Nc10, Kc10, Ac10, Cc10⟩, st10⟩ := own_callV X9 hx hZ hown (argsL := []) (rest := []) (own_toArray_con l Z a0 hw a7 b ((List.replicate 16 (.int 0)).set 0 (.int x0)) ((0 : Int32) + 1) 1 h0.size T9.heap I9 (by decide) (by simp) (by decide) g1 []) rfl ey (hw _ (List.mem_of_getElem? (i := 13) rfl)) (hw _ (List.mem_of_getElem? (i := 14) rfl)) (hw _ (List.mem_of_getElem? (i := 16) rfl)) (hw _ (List.mem_of_getElem? (i := 15) rfl)) (hw _ (List.mem_of_getElem? (i := 3) rfl)) (hw _ (List.mem_of_getElem? (i := 17) rfl)) (notFace_of_selects (args := #[]) (mvT hZ (hw _ (List.mem_of_getElem? (i := 16) rfl)))) (by decide) (by decide +kernel : parseMethodDescriptor "()[I" = some ⟨[], (some (.array .int))⟩) rfl (g := (mkF m 67 #[.val (.int x0), .val (.int x1), .val (.int x2), .val (.int x3), .val (.int x4), .val (.int (1 : Int32)), .val (.ref a7), .unset, .unset] [(.ref a7)])) rfl (by rw [hml]; rfl) rfl 0 (by show 2 * 0 + _ ≤ _; exact Nat.le_of_eq rfl) (hb hby at_67) (by decide) (by decide) (by decide) (by decide)
    have N10 := Fr.app N9 Nc10
    have o_E_10 := ey.keep Kc10
    rw [← hr] at Ac10 Cc10 ne1 ne2 st10
    refine own_go st10 ?_
    show own_Go p e below _ (T10.setTop (mkF m 70 #[.val (.int x0), .val (.int x1), .val (.int x2), .val (.int x3), .val (.int x4), .val (.int (1 : Int32)), .val (.ref a7), .unset, .unset] [(.ref r)]))
    have A1 : own_AV Z T10.heap r .int [.int x0] := Ac10
    have I2 : own_Ids Z T10.heap a7 b ((List.replicate 16 (.int 0)).set 0 (.int x0)) ((0 : Int32) + 1) := ⟨I9.1.keep Kc10, I9.2.1.keep Kc10 nin0, I9.2.2.1.keep Kc10 nin0, I9.2.2.2.1.keep Kc10 nin0, I9.2.2.2.2.1.keep Kc10, I9.2.2.2.2.2⟩
    have gr : h0.size ≤ r := by rw [hr]; exact g1
    refine own_go (fun _ => XS.astore X10.here hx rfl (hb hby at_70) rfl rfl (l' := #[.val (.int x0), .val (.int x1), .val (.int x2), .val (.int x3), .val (.int x4), .val (.int (1 : Int32)), .val (.ref a7), .val (.ref r), .unset]) rfl) ?_
    show own_Go p e below _ (T10.setTop (mkF m 72 #[.val (.int x0), .val (.int x1), .val (.int x2), .val (.int x3), .val (.int x4), .val (.int (1 : Int32)), .val (.ref a7), .val (.ref r), .unset] []))
    refine own_go (fun _ => XS.aload X10.here hx rfl (hb hby at_72) rfl rfl) ?_
    show own_Go p e below _ (T10.setTop (mkF m 74 #[.val (.int x0), .val (.int x1), .val (.int x2), .val (.int x3), .val (.int x4), .val (.int (1 : Int32)), .val (.ref a7), .val (.ref r), .unset] [(.ref r)]))
    refine own_go (fun _ => XS.iload X10.here hx rfl (hb hby at_74) rfl) ?_
    show own_Go p e below _ (T10.setTop (mkF m 76 #[.val (.int x0), .val (.int x1), .val (.int x2), .val (.int x3), .val (.int x4), .val (.int (1 : Int32)), .val (.ref a7), .val (.ref r), .unset] [(.int (1 : Int32)), (.ref r)]))
    refine own_go (fun _ => XS.iloadN X10.here hx rfl (hb hby at_76) rfl) ?_
    show own_Go p e below _ (T10.setTop (mkF m 77 #[.val (.int x0), .val (.int x1), .val (.int x2), .val (.int x3), .val (.int x4), .val (.int (1 : Int32)), .val (.ref a7), .val (.ref r), .unset] [(.int x0), (.int (1 : Int32)), (.ref r)]))
    refine own_go (fun _ => XS.iloadN X10.here hx rfl (hb hby at_77) rfl) ?_
    show own_Go p e below _ (T10.setTop (mkF m 78 #[.val (.int x0), .val (.int x1), .val (.int x2), .val (.int x3), .val (.int x4), .val (.int (1 : Int32)), .val (.ref a7), .val (.ref r), .unset] [(.int x1), (.int x0), (.int (1 : Int32)), (.ref r)]))
    refine own_go (fun _ => XS.iloadN X10.here hx rfl (hb hby at_78) rfl) ?_
    show own_Go p e below _ (T10.setTop (mkF m 79 #[.val (.int x0), .val (.int x1), .val (.int x2), .val (.int x3), .val (.int x4), .val (.int (1 : Int32)), .val (.ref a7), .val (.ref r), .unset] [(.int x2), (.int x1), (.int x0), (.int (1 : Int32)), (.ref r)]))
    refine own_go (fun _ => XS.iloadN X10.here hx rfl (hb hby at_79) rfl) ?_
    show own_Go p e below _ (T10.setTop (mkF m 80 #[.val (.int x0), .val (.int x1), .val (.int x2), .val (.int x3), .val (.int x4), .val (.int (1 : Int32)), .val (.ref a7), .val (.ref r), .unset] [(.int x3), (.int x2), (.int x1), (.int x0), (.int (1 : Int32)), (.ref r)]))
    obtain ⟨_, T11, L11, X11, ⟨rfl, eh11, rfl⟩, st11⟩ := own_callS X10 hx hZ hown (argsL := [(.ref r), (.int (1 : Int32)), (.int x0), (.int x1), (.int x2), (.int x3)]) (rest := []) (own_matches_con l Z a0 hw r [.int x0] (1 : Int32) x0 x1 x2 x3 T10.heap A1 (by first | rfl | simp) (fun _ => rfl) (fun q => absurd q (by simp)) (fun q => absurd q (by simp)) (fun q => absurd q (by simp)) []) rfl (hw _ (List.mem_of_getElem? (i := 32) rfl)) (hw _ (List.mem_of_getElem? (i := 33) rfl)) (hw _ (List.mem_of_getElem? (i := 34) rfl)) (hw _ (List.mem_of_getElem? (i := 35) rfl)) (by decide) (by decide +kernel : parseMethodDescriptor "([IIIIII)Z" = some ⟨[(.array .int), .int, .int, .int, .int, .int], some .boolean⟩) rfl (g := (mkF m 80 #[.val (.int x0), .val (.int x1), .val (.int x2), .val (.int x3), .val (.int x4), .val (.int (1 : Int32)), .val (.ref a7), .val (.ref r), .unset] [(.int x3), (.int x2), (.int x1), (.int x0), (.int (1 : Int32)), (.ref r)])) rfl (by rw [hml]; rfl) rfl 0 (by show 2 * 0 + _ ≤ _; exact Nat.le_of_eq rfl) (hb hby at_80) (by decide) (by decide) (by decide) (by decide)
    rw [List.append_nil] at X11
    refine own_go st11 ?_
    show own_Go p e below _ (T11.setTop (mkF m 83 #[.val (.int x0), .val (.int x1), .val (.int x2), .val (.int x3), .val (.int x4), .val (.int (1 : Int32)), .val (.ref a7), .val (.ref r), .unset] [(.int (1 : Int32))]))
    refine own_go (fun _ => XS.ifYes X11.here hx rfl (pc0 := 83) (pc' := 88) rfl (hb hby at_83) rfl (XT.i0_ne_t (by decide)) (by decide) (by decide)) ?_
    show own_Go p e below _ (T11.setTop (mkF m 88 #[.val (.int x0), .val (.int x1), .val (.int x2), .val (.int x3), .val (.int x4), .val (.int (1 : Int32)), .val (.ref a7), .val (.ref r), .unset] []))
    refine own_go (fun _ => XS.iload X11.here hx rfl (hb hby at_88) rfl) ?_
    show own_Go p e below _ (T11.setTop (mkF m 90 #[.val (.int x0), .val (.int x1), .val (.int x2), .val (.int x3), .val (.int x4), .val (.int (1 : Int32)), .val (.ref a7), .val (.ref r), .unset] [(.int (1 : Int32))]))
    refine own_go (fun _ => XS.ifNo X11.here hx rfl (hb hby at_90) rfl (XT.i0_le_f (by decide))) ?_
    show own_Go p e below _ (T11.setTop (mkF m 93 #[.val (.int x0), .val (.int x1), .val (.int x2), .val (.int x3), .val (.int x4), .val (.int (1 : Int32)), .val (.ref a7), .val (.ref r), .unset] []))
    refine own_go (fun _ => XS.aload X11.here hx rfl (hb hby at_93) rfl rfl) ?_
    show own_Go p e below _ (T11.setTop (mkF m 95 #[.val (.int x0), .val (.int x1), .val (.int x2), .val (.int x3), .val (.int x4), .val (.int (1 : Int32)), .val (.ref a7), .val (.ref r), .unset] [(.ref r)]))
    refine own_go (fun _ => XS.iconst X11.here hx rfl (hb hby at_95)) ?_
    show own_Go p e below _ (T11.setTop (mkF m 96 #[.val (.int x0), .val (.int x1), .val (.int x2), .val (.int x3), .val (.int x4), .val (.int (1 : Int32)), .val (.ref a7), .val (.ref r), .unset] [(.int (0 : Int32)), (.ref r)]))
    refine own_go (fun _ => XS.aload X11.here hx rfl (hb hby at_96) rfl rfl) ?_
    show own_Go p e below _ (T11.setTop (mkF m 98 #[.val (.int x0), .val (.int x1), .val (.int x2), .val (.int x3), .val (.int x4), .val (.int (1 : Int32)), .val (.ref a7), .val (.ref r), .unset] [(.ref r), (.int (0 : Int32)), (.ref r)]))
    refine own_go (fun _ => XS.iconst X11.here hx rfl (hb hby at_98)) ?_
    show own_Go p e below _ (T11.setTop (mkF m 99 #[.val (.int x0), .val (.int x1), .val (.int x2), .val (.int x3), .val (.int x4), .val (.int (1 : Int32)), .val (.ref a7), .val (.ref r), .unset] [(.int (0 : Int32)), (.ref r), (.int (0 : Int32)), (.ref r)]))
    refine own_go (own_ldI X11 hx hZ eh11 A1 (g := (mkF m 99 #[.val (.int x0), .val (.int x1), .val (.int x2), .val (.int x3), .val (.int x4), .val (.int (1 : Int32)), .val (.ref a7), .val (.ref r), .unset] [(.int (0 : Int32)), (.ref r), (.int (0 : Int32)), (.ref r)])) rfl rfl (hb hby at_99) 0 (by decide) (x := (.int x0)) rfl) ?_
    show own_Go p e below _ (T11.setTop (mkF m 100 #[.val (.int x0), .val (.int x1), .val (.int x2), .val (.int x3), .val (.int x4), .val (.int (1 : Int32)), .val (.ref a7), .val (.ref r), .unset] [(.int x0), (.int (0 : Int32)), (.ref r)]))
    refine own_go (fun _ => XS.iconst X11.here hx rfl (hb hby at_100)) ?_
    show own_Go p e below _ (T11.setTop (mkF m 101 #[.val (.int x0), .val (.int x1), .val (.int x2), .val (.int x3), .val (.int x4), .val (.int (1 : Int32)), .val (.ref a7), .val (.ref r), .unset] [(.int (-1 : Int32)), (.int x0), (.int (0 : Int32)), (.ref r)]))
    refine own_go (fun _ => XT.ixor X11.here hx rfl (hb hby at_101) rfl) ?_
    show own_Go p e below _ (T11.setTop (mkF m 102 #[.val (.int x0), .val (.int x1), .val (.int x2), .val (.int x3), .val (.int x4), .val (.int (1 : Int32)), .val (.ref a7), .val (.ref r), .unset] [(.int (x0 ^^^ (-1 : Int32))), (.int (0 : Int32)), (.ref r)]))
    obtain ⟨T12, h12, X12, e12, W12, A12, st12⟩ := own_stI X11 hx hZ eh11 A1 (g := (mkF m 102 #[.val (.int x0), .val (.int x1), .val (.int x2), .val (.int x3), .val (.int x4), .val (.int (1 : Int32)), .val (.ref a7), .val (.ref r), .unset] [(.int (x0 ^^^ (-1 : Int32))), (.int (0 : Int32)), (.ref r)])) rfl rfl (hb hby at_102) 0 (by decide) (by simp)
    have N12 := Fr.snoc X12 N10 gr
    refine own_go st12 ?_
    show own_Go p e below _ (T12.setTop (mkF m 103 #[.val (.int x0), .val (.int x1), .val (.int x2), .val (.int x3), .val (.int x4), .val (.int (1 : Int32)), .val (.ref a7), .val (.ref r), .unset] []))
    have I3 : own_Ids Z h12 a7 b ((List.replicate 16 (.int 0)).set 0 (.int x0)) ((0 : Int32) + 1) := ⟨I2.1.wr W12, I2.2.1.other W12 (Or.inl ne2), I2.2.2.1.other W12 (Or.inl ne2), I2.2.2.2.1.other W12 ne1, I2.2.2.2.2.1.wr W12, I2.2.2.2.2.2⟩
    have rl : r < h12.size := A12.lt
    refine own_go (fun _ => XS.aload X12.here hx rfl (hb hby at_103) rfl rfl) ?_
    show own_Go p e below _ (T12.setTop (mkF m 105 #[.val (.int x0), .val (.int x1), .val (.int x2), .val (.int x3), .val (.int x4), .val (.int (1 : Int32)), .val (.ref a7), .val (.ref r), .unset] [(.ref a7)]))
    obtain ⟨ez, _⟩ := id I3
    have g2 : h0.size ≤ h12.size := Nat.le_trans gb (Nat.le_of_lt I3.2.2.2.1.lt)
    obtain ⟨r2, hr2⟩ : ∃ z, z = h12.size := ⟨_, rfl⟩
    obtain ⟨_, T13, L13, X13, ⟨rfl, Nc13, Kc13, Ac13, Cc13⟩, st13⟩ := own_callV X12 hx hZ hown (argsL := []) (rest := []) (own_toArray_con l Z a0 hw a7 b ((List.replicate 16 (.int 0)).set 0 (.int x0)) ((0 : Int32) + 1) 1 h0.size h12 I3 (by decide) (by simp) (by decide) g2 []) e12 ez (hw _ (List.mem_of_getElem? (i := 13) rfl)) (hw _ (List.mem_of_getElem? (i := 14) rfl)) (hw _ (List.mem_of_getElem? (i := 16) rfl)) (hw _ (List.mem_of_getElem? (i := 15) rfl)) (hw _ (List.mem_of_getElem? (i := 3) rfl)) (hw _ (List.mem_of_getElem? (i := 17) rfl)) (notFace_of_selects (args := #[]) (mvT hZ (hw _ (List.mem_of_getElem? (i := 16) rfl)))) (by decide) (by decide +kernel : parseMethodDescriptor "()[I" = some ⟨[], (some (.array .int))⟩) rfl (g := (mkF m 105 #[.val (.int x0), .val (.int x1), .val (.int x2), .val (.int x3), .val (.int x4), .val (.int (1 : Int32)), .val (.ref a7), .val (.ref r), .unset] [(.ref a7)])) rfl (by rw [hml]; rfl) rfl 0 (by show 2 * 0 + _ ≤ _; exact Nat.le_of_eq rfl) (hb hby at_105) (by decide) (by decide) (by decide) (by decide)
    have N13 := Fr.app N12 Nc13
    have o_E_13 := ez.keep Kc13
    rw [← hr2] at Ac13 Cc13 st13 rl
    refine own_go st13 ?_
    show own_Go p e below _ (T13.setTop (mkF m 108 #[.val (.int x0), .val (.int x1), .val (.int x2), .val (.int x3), .val (.int x4), .val (.int (1 : Int32)), .val (.ref a7), .val (.ref r), .unset] [(.ref r2)]))
    have A2 : own_AV Z T13.heap r2 .int [.int x0] := Ac13
    refine own_go (fun _ => XS.astore X13.here hx rfl (hb hby at_108) rfl rfl (l' := #[.val (.int x0), .val (.int x1), .val (.int x2), .val (.int x3), .val (.int x4), .val (.int (1 : Int32)), .val (.ref a7), .val (.ref r), .val (.ref r2)]) rfl) ?_
    show own_Go p e below _ (T13.setTop (mkF m 110 #[.val (.int x0), .val (.int x1), .val (.int x2), .val (.int x3), .val (.int x4), .val (.int (1 : Int32)), .val (.ref a7), .val (.ref r), .val (.ref r2)] []))
    refine own_go (fun _ => XS.aload X13.here hx rfl (hb hby at_110) rfl rfl) ?_
    show own_Go p e below _ (T13.setTop (mkF m 112 #[.val (.int x0), .val (.int x1), .val (.int x2), .val (.int x3), .val (.int x4), .val (.int (1 : Int32)), .val (.ref a7), .val (.ref r), .val (.ref r2)] [(.ref r2)]))
    refine own_go (fun _ => XS.aload X13.here hx rfl (hb hby at_112) rfl rfl) ?_
    show own_Go p e below _ (T13.setTop (mkF m 114 #[.val (.int x0), .val (.int x1), .val (.int x2), .val (.int x3), .val (.int x4), .val (.int (1 : Int32)), .val (.ref a7), .val (.ref r), .val (.ref r2)] [(.ref r), (.ref r2)]))
    refine own_go (fun _ => XT.acmpYes X13.here hx rfl (pc0 := 114) (pc' := 119) rfl (hb hby at_114) rfl rfl rfl (XT.aa_ne_t (fun z => absurd rl (by cases z; exact Nat.lt_irrefl _))) (by decide) (by decide)) ?_
    show own_Go p e below _ (T13.setTop (mkF m 119 #[.val (.int x0), .val (.int x1), .val (.int x2), .val (.int x3), .val (.int x4), .val (.int (1 : Int32)), .val (.ref a7), .val (.ref r), .val (.ref r2)] []))
    refine own_go (fun _ => XS.aload X13.here hx rfl (hb hby at_119) rfl rfl) ?_
    show own_Go p e below _ (T13.setTop (mkF m 121 #[.val (.int x0), .val (.int x1), .val (.int x2), .val (.int x3), .val (.int x4), .val (.int (1 : Int32)), .val (.ref a7), .val (.ref r), .val (.ref r2)] [(.ref r2)]))
    refine own_go (fun _ => XS.iload X13.here hx rfl (hb hby at_121) rfl) ?_
    show own_Go p e below _ (T13.setTop (mkF m 123 #[.val (.int x0), .val (.int x1), .val (.int x2), .val (.int x3), .val (.int x4), .val (.int (1 : Int32)), .val (.ref a7), .val (.ref r), .val (.ref r2)] [(.int (1 : Int32)), (.ref r2)]))
    refine own_go (fun _ => XS.iloadN X13.here hx rfl (hb hby at_123) rfl) ?_
    show own_Go p e below _ (T13.setTop (mkF m 124 #[.val (.int x0), .val (.int x1), .val (.int x2), .val (.int x3), .val (.int x4), .val (.int (1 : Int32)), .val (.ref a7), .val (.ref r), .val (.ref r2)] [(.int x0), (.int (1 : Int32)), (.ref r2)]))
    refine own_go (fun _ => XS.iloadN X13.here hx rfl (hb hby at_124) rfl) ?_
    show own_Go p e below _ (T13.setTop (mkF m 125 #[.val (.int x0), .val (.int x1), .val (.int x2), .val (.int x3), .val (.int x4), .val (.int (1 : Int32)), .val (.ref a7), .val (.ref r), .val (.ref r2)] [(.int x1), (.int x0), (.int (1 : Int32)), (.ref r2)]))
    refine own_go (fun _ => XS.iloadN X13.here hx rfl (hb hby at_125) rfl) ?_
    show own_Go p e below _ (T13.setTop (mkF m 126 #[.val (.int x0), .val (.int x1), .val (.int x2), .val (.int x3), .val (.int x4), .val (.int (1 : Int32)), .val (.ref a7), .val (.ref r), .val (.ref r2)] [(.int x2), (.int x1), (.int x0), (.int (1 : Int32)), (.ref r2)]))
    refine own_go (fun _ => XS.iloadN X13.here hx rfl (hb hby at_126) rfl) ?_
    show own_Go p e below _ (T13.setTop (mkF m 127 #[.val (.int x0), .val (.int x1), .val (.int x2), .val (.int x3), .val (.int x4), .val (.int (1 : Int32)), .val (.ref a7), .val (.ref r), .val (.ref r2)] [(.int x3), (.int x2), (.int x1), (.int x0), (.int (1 : Int32)), (.ref r2)]))
    obtain ⟨_, T14, L14, X14, ⟨rfl, eh14, rfl⟩, st14⟩ := own_callS X13 hx hZ hown (argsL := [(.ref r2), (.int (1 : Int32)), (.int x0), (.int x1), (.int x2), (.int x3)]) (rest := []) (own_matches_con l Z a0 hw r2 [.int x0] (1 : Int32) x0 x1 x2 x3 T13.heap A2 (by first | rfl | simp) (fun _ => rfl) (fun q => absurd q (by simp)) (fun q => absurd q (by simp)) (fun q => absurd q (by simp)) []) rfl (hw _ (List.mem_of_getElem? (i := 32) rfl)) (hw _ (List.mem_of_getElem? (i := 33) rfl)) (hw _ (List.mem_of_getElem? (i := 34) rfl)) (hw _ (List.mem_of_getElem? (i := 35) rfl)) (by decide) (by decide +kernel : parseMethodDescriptor "([IIIIII)Z" = some ⟨[(.array .int), .int, .int, .int, .int, .int], some .boolean⟩) rfl (g := (mkF m 127 #[.val (.int x0), .val (.int x1), .val (.int x2), .val (.int x3), .val (.int x4), .val (.int (1 : Int32)), .val (.ref a7), .val (.ref r), .val (.ref r2)] [(.int x3), (.int x2), (.int x1), (.int x0), (.int (1 : Int32)), (.ref r2)])) rfl (by rw [hml]; rfl) rfl 0 (by show 2 * 0 + _ ≤ _; exact Nat.le_of_eq rfl) (hb hby at_127) (by decide) (by decide) (by decide) (by decide)
    rw [List.append_nil] at X14
    refine own_go st14 ?_
    show own_Go p e below _ (T14.setTop (mkF m 130 #[.val (.int x0), .val (.int x1), .val (.int x2), .val (.int x3), .val (.int x4), .val (.int (1 : Int32)), .val (.ref a7), .val (.ref r), .val (.ref r2)] [(.int (1 : Int32))]))
    exact own_iret X14 hx hlk hret (Or.inr (Or.inl rfl)) rfl (hb hby at_130) (by decide) (by decide) ⟨rfl, N13⟩
  · skip
    rw [hn]
    show own_Go p e below _ (T.setTop (mkF m 7 #[.val (.int x0), .val (.int x1), .val (.int x2), .val (.int x3), .val (.int x4), .unset, .unset, .unset, .unset] [(.int (2 : Int32))]))
    refine own_go (fun _ => XS.istore X.here hx rfl (hb hby at_7) rfl (l' := #[.val (.int x0), .val (.int x1), .val (.int x2), .val (.int x3), .val (.int x4), .val (.int (2 : Int32)), .unset, .unset, .unset]) rfl) ?_
    show own_Go p e below _ (T.setTop (mkF m 9 #[.val (.int x0), .val (.int x1), .val (.int x2), .val (.int x3), .val (.int x4), .val (.int (2 : Int32)), .unset, .unset, .unset] []))
    obtain ⟨T15, h15, X15, e15, E15, C15, D15, -, st15⟩ := newO X hx hZ hown (hw _ (List.mem_of_getElem? (i := 1) rfl)) (hw _ (List.mem_of_getElem? (i := 2) rfl)) (hw _ (List.mem_of_getElem? (i := 3) rfl)) eT (g := (mkF m 9 #[.val (.int x0), .val (.int x1), .val (.int x2), .val (.int x3), .val (.int x4), .val (.int (2 : Int32)), .unset, .unset, .unset] [])) rfl (hb hby at_9) (by decide) (by decide)
    obtain ⟨a15, q15⟩ : ∃ z, z = h0.size := ⟨_, rfl⟩
    rw [← q15] at C15 D15 st15
    have o_ids_15 := D15 (Or.inl (hw _ (List.mem_of_getElem? (i := 12) rfl))) (ty := (.array .int)) (by decide)
    have o_size_15 := D15 (Or.inl (hw _ (List.mem_of_getElem? (i := 19) rfl))) (ty := .int) (by decide)
    refine own_go st15 ?_
    show own_Go p e below _ (T15.setTop (mkF m 12 #[.val (.int x0), .val (.int x1), .val (.int x2), .val (.int x3), .val (.int x4), .val (.int (2 : Int32)), .unset, .unset, .unset] [(.ref a15)]))
    refine own_go (fun _ => XS.dup X15.here hx rfl (hb hby at_12) rfl rfl) ?_
    show own_Go p e below _ (T15.setTop (mkF m 13 #[.val (.int x0), .val (.int x1), .val (.int x2), .val (.int x3), .val (.int x4), .val (.int (2 : Int32)), .unset, .unset, .unset] [(.ref a15), (.ref a15)]))
    have ga : h0.size ≤ a15 := Nat.le_of_eq q15.symm
    have gn : h0.size ≤ h15.size := E15.1
    obtain ⟨b, hbv⟩ : ∃ z, z = h15.size := ⟨_, rfl⟩
    obtain ⟨_, T16, L16, X16, ⟨rfl, Nc16, Kc16, I16⟩, st16⟩ := own_callI X15 hx hZ hown rfl (argsL := []) (rest := [(.ref a15)]) (own_init_con l Z a0 hw a15 h0.size h15 C15 o_ids_15 o_size_15 ga gn []) e15 (hw _ (List.mem_of_getElem? (i := 4) rfl)) (hw _ (List.mem_of_getElem? (i := 5) rfl)) (hw _ (List.mem_of_getElem? (i := 3) rfl)) (hw _ (List.mem_of_getElem? (i := 6) rfl)) (by decide) (by decide +kernel : parseMethodDescriptor "()V" = some ⟨[], none⟩) rfl (g := (mkF m 13 #[.val (.int x0), .val (.int x1), .val (.int x2), .val (.int x3), .val (.int x4), .val (.int (2 : Int32)), .unset, .unset, .unset] [(.ref a15), (.ref a15)])) rfl (by rw [hml]; rfl) rfl 1 (by show 2 * 0 + _ ≤ _; exact Nat.le_of_eq rfl) (hb hby at_13) (by decide) (by decide) (by decide) (by decide)
    have N16 := Fr.app N0 Nc16
    have o_E_16 := C15.keep Kc16
    refine own_go st16 ?_
    show own_Go p e below _ (T16.setTop (mkF m 16 #[.val (.int x0), .val (.int x1), .val (.int x2), .val (.int x3), .val (.int x4), .val (.int (2 : Int32)), .unset, .unset, .unset] [(.ref a15)]))
    rw [← hbv] at I16
    have gb : h0.size ≤ b := by rw [hbv]; exact gn
    refine own_go (fun _ => XS.astore X16.here hx rfl (hb hby at_16) rfl rfl (l' := #[.val (.int x0), .val (.int x1), .val (.int x2), .val (.int x3), .val (.int x4), .val (.int (2 : Int32)), .val (.ref a15), .unset, .unset]) rfl) ?_
    show own_Go p e below _ (T16.setTop (mkF m 18 #[.val (.int x0), .val (.int x1), .val (.int x2), .val (.int x3), .val (.int x4), .val (.int (2 : Int32)), .val (.ref a15), .unset, .unset] []))
    refine own_go (fun _ => XS.iload X16.here hx rfl (hb hby at_18) rfl) ?_
    show own_Go p e below _ (T16.setTop (mkF m 20 #[.val (.int x0), .val (.int x1), .val (.int x2), .val (.int x3), .val (.int x4), .val (.int (2 : Int32)), .val (.ref a15), .unset, .unset] [(.int (2 : Int32))]))
    refine own_go (fun _ => XS.ifNo X16.here hx rfl (hb hby at_20) rfl (XT.i0_le_f (by decide))) ?_
    show own_Go p e below _ (T16.setTop (mkF m 23 #[.val (.int x0), .val (.int x1), .val (.int x2), .val (.int x3), .val (.int x4), .val (.int (2 : Int32)), .val (.ref a15), .unset, .unset] []))
    refine own_go (fun _ => XS.aload X16.here hx rfl (hb hby at_23) rfl rfl) ?_
    show own_Go p e below _ (T16.setTop (mkF m 25 #[.val (.int x0), .val (.int x1), .val (.int x2), .val (.int x3), .val (.int x4), .val (.int (2 : Int32)), .val (.ref a15), .unset, .unset] [(.ref a15)]))
    refine own_go (fun _ => XS.iloadN X16.here hx rfl (hb hby at_25) rfl) ?_
    show own_Go p e below _ (T16.setTop (mkF m 26 #[.val (.int x0), .val (.int x1), .val (.int x2), .val (.int x3), .val (.int x4), .val (.int (2 : Int32)), .val (.ref a15), .unset, .unset] [(.int x0), (.ref a15)]))
    obtain ⟨ex0, _⟩ := id I16
    obtain ⟨_, T17, L17, X17, ⟨rfl, Nc17, Kc17, I17⟩, st17⟩ := own_callV X16 hx hZ hown (argsL := [(.int x0)]) (rest := []) (own_add_con l Z a0 hw a15 b (List.replicate 16 (.int 0)) (0 : Int32) x0 0 h0.size T16.heap I16 (by decide) (by simp) ga gb []) rfl ex0 (hw _ (List.mem_of_getElem? (i := 36) rfl)) (hw _ (List.mem_of_getElem? (i := 37) rfl)) (hw _ (List.mem_of_getElem? (i := 39) rfl)) (hw _ (List.mem_of_getElem? (i := 38) rfl)) (hw _ (List.mem_of_getElem? (i := 3) rfl)) (hw _ (List.mem_of_getElem? (i := 40) rfl)) (notFace_of_selects (args := #[]) (mvT hZ (hw _ (List.mem_of_getElem? (i := 39) rfl)))) (by decide) (by decide +kernel : parseMethodDescriptor "(I)V" = some ⟨[.int], none⟩) rfl (g := (mkF m 26 #[.val (.int x0), .val (.int x1), .val (.int x2), .val (.int x3), .val (.int x4), .val (.int (2 : Int32)), .val (.ref a15), .unset, .unset] [(.int x0), (.ref a15)])) rfl (by rw [hml]; rfl) rfl 0 (by show 2 * 0 + _ ≤ _; exact Nat.le_of_eq rfl) (hb hby at_26) (by decide) (by decide) (by decide) (by decide)
    have N17 := Fr.app N16 Nc17
    have o_E_17 := ex0.keep Kc17
    refine own_go st17 ?_
    show own_Go p e below _ (T17.setTop (mkF m 29 #[.val (.int x0), .val (.int x1), .val (.int x2), .val (.int x3), .val (.int x4), .val (.int (2 : Int32)), .val (.ref a15), .unset, .unset] []))
    refine own_go (fun _ => XS.iload X17.here hx rfl (hb hby at_29) rfl) ?_
    show own_Go p e below _ (T17.setTop (mkF m 31 #[.val (.int x0), .val (.int x1), .val (.int x2), .val (.int x3), .val (.int x4), .val (.int (2 : Int32)), .val (.ref a15), .unset, .unset] [(.int (2 : Int32))]))
    refine own_go (fun _ => XS.iconst X17.here hx rfl (hb hby at_31)) ?_
    show own_Go p e below _ (T17.setTop (mkF m 32 #[.val (.int x0), .val (.int x1), .val (.int x2), .val (.int x3), .val (.int x4), .val (.int (2 : Int32)), .val (.ref a15), .unset, .unset] [(.int (1 : Int32)), (.int (2 : Int32))]))
    refine own_go (fun _ => XS.icmpNo X17.here hx rfl (hb hby at_32) rfl (XT.ii_le_f (by decide))) ?_
    show own_Go p e below _ (T17.setTop (mkF m 35 #[.val (.int x0), .val (.int x1), .val (.int x2), .val (.int x3), .val (.int x4), .val (.int (2 : Int32)), .val (.ref a15), .unset, .unset] []))
    refine own_go (fun _ => XS.aload X17.here hx rfl (hb hby at_35) rfl rfl) ?_
    show own_Go p e below _ (T17.setTop (mkF m 37 #[.val (.int x0), .val (.int x1), .val (.int x2), .val (.int x3), .val (.int x4), .val (.int (2 : Int32)), .val (.ref a15), .unset, .unset] [(.ref a15)]))
    refine own_go (fun _ => XS.iloadN X17.here hx rfl (hb hby at_37) rfl) ?_
    show own_Go p e below _ (T17.setTop (mkF m 38 #[.val (.int x0), .val (.int x1), .val (.int x2), .val (.int x3), .val (.int x4), .val (.int (2 : Int32)), .val (.ref a15), .unset, .unset] [(.int x1), (.ref a15)]))
    obtain ⟨ex1, _⟩ := id I17
    obtain ⟨_, T18, L18, X18, ⟨rfl, Nc18, Kc18, I18⟩, st18⟩ := own_callV X17 hx hZ hown (argsL := [(.int x1)]) (rest := []) (own_add_con l Z a0 hw a15 b ((List.replicate 16 (.int 0)).set 0 (.int x0)) ((0 : Int32) + 1) x1 1 h0.size T17.heap I17 (by decide) (by simp) ga gb []) rfl ex1 (hw _ (List.mem_of_getElem? (i := 36) rfl)) (hw _ (List.mem_of_getElem? (i := 37) rfl)) (hw _ (List.mem_of_getElem? (i := 39) rfl)) (hw _ (List.mem_of_getElem? (i := 38) rfl)) (hw _ (List.mem_of_getElem? (i := 3) rfl)) (hw _ (List.mem_of_getElem? (i := 40) rfl)) (notFace_of_selects (args := #[]) (mvT hZ (hw _ (List.mem_of_getElem? (i := 39) rfl)))) (by decide) (by decide +kernel : parseMethodDescriptor "(I)V" = some ⟨[.int], none⟩) rfl (g := (mkF m 38 #[.val (.int x0), .val (.int x1), .val (.int x2), .val (.int x3), .val (.int x4), .val (.int (2 : Int32)), .val (.ref a15), .unset, .unset] [(.int x1), (.ref a15)])) rfl (by rw [hml]; rfl) rfl 0 (by show 2 * 0 + _ ≤ _; exact Nat.le_of_eq rfl) (hb hby at_38) (by decide) (by decide) (by decide) (by decide)
    have N18 := Fr.app N17 Nc18
    have o_E_18 := ex1.keep Kc18
    refine own_go st18 ?_
    show own_Go p e below _ (T18.setTop (mkF m 41 #[.val (.int x0), .val (.int x1), .val (.int x2), .val (.int x3), .val (.int x4), .val (.int (2 : Int32)), .val (.ref a15), .unset, .unset] []))
    refine own_go (fun _ => XS.iload X18.here hx rfl (hb hby at_41) rfl) ?_
    show own_Go p e below _ (T18.setTop (mkF m 43 #[.val (.int x0), .val (.int x1), .val (.int x2), .val (.int x3), .val (.int x4), .val (.int (2 : Int32)), .val (.ref a15), .unset, .unset] [(.int (2 : Int32))]))
    refine own_go (fun _ => XS.iconst X18.here hx rfl (hb hby at_43)) ?_
    show own_Go p e below _ (T18.setTop (mkF m 44 #[.val (.int x0), .val (.int x1), .val (.int x2), .val (.int x3), .val (.int x4), .val (.int (2 : Int32)), .val (.ref a15), .unset, .unset] [(.int (2 : Int32)), (.int (2 : Int32))]))
    refine own_go (fun _ => XS.icmpYes X18.here hx rfl (pc0 := 44) (pc' := 53) rfl (hb hby at_44) rfl (XT.ii_le_t (by decide)) (by decide) (by decide)) ?_
    show own_Go p e below _ (T18.setTop (mkF m 53 #[.val (.int x0), .val (.int x1), .val (.int x2), .val (.int x3), .val (.int x4), .val (.int (2 : Int32)), .val (.ref a15), .unset, .unset] []))
    refine own_go (fun _ => XS.iload X18.here hx rfl (hb hby at_53) rfl) ?_
    show own_Go p e below _ (T18.setTop (mkF m 55 #[.val (.int x0), .val (.int x1), .val (.int x2), .val (.int x3), .val (.int x4), .val (.int (2 : Int32)), .val (.ref a15), .unset, .unset] [(.int (2 : Int32))]))
    refine own_go (fun _ => XS.iconst X18.here hx rfl (hb hby at_55)) ?_
    show own_Go p e below _ (T18.setTop (mkF m 56 #[.val (.int x0), .val (.int x1), .val (.int x2), .val (.int x3), .val (.int x4), .val (.int (2 : Int32)), .val (.ref a15), .unset, .unset] [(.int (3 : Int32)), (.int (2 : Int32))]))
    refine own_go (fun _ => XS.icmpYes X18.here hx rfl (pc0 := 56) (pc' := 65) rfl (hb hby at_56) rfl (XT.ii_le_t (by decide)) (by decide) (by decide)) ?_
    show own_Go p e below _ (T18.setTop (mkF m 65 #[.val (.int x0), .val (.int x1), .val (.int x2), .val (.int x3), .val (.int x4), .val (.int (2 : Int32)), .val (.ref a15), .unset, .unset] []))
    refine own_go (fun _ => XS.aload X18.here hx rfl (hb hby at_65) rfl rfl) ?_
    show own_Go p e below _ (T18.setTop (mkF m 67 #[.val (.int x0), .val (.int x1), .val (.int x2), .val (.int x3), .val (.int x4), .val (.int (2 : Int32)), .val (.ref a15), .unset, .unset] [(.ref a15)]))
    have g1 : h0.size ≤ T18.heap.size := Nat.le_trans gb (Nat.le_of_lt I18.2.2.2.1.lt)
    have ne1 : b ≠ T18.heap.size := Nat.ne_of_lt I18.2.2.2.1.lt
    have ne2 : a15 ≠ T18.heap.size := Nat.ne_of_lt I18.1.lt
    obtain ⟨r, hr⟩ : ∃ z, z = T18.heap.size := ⟨_, rfl⟩
    obtain ⟨ey, _⟩ := id I18
    obtain ⟨_, T19, L19, X19, ⟨rfl, Nc19, Kc19, Ac19, Cc19⟩, st19⟩ := own_callV X18 hx hZ hown (argsL := []) (rest := []) (own_toArray_con l Z a0 hw a15 b (((List.replicate 16 (.int 0)).set 0 (.int x0)).set 1 (.int x1)) (((0 : Int32) + 1) + 1) 2 h0.size T18.heap I18 (by decide) (by simp) (by decide) g1 []) rfl ey (hw _ (List.mem_of_getElem? (i := 13) rfl)) (hw _ (List.mem_of_getElem? (i := 14) rfl)) (hw _ (List.mem_of_getElem? (i := 16) rfl)) (hw _ (List.mem_of_getElem? (i := 15) rfl)) (hw _ (List.mem_of_getElem? (i := 3) rfl)) (hw _ (List.mem_of_getElem? (i := 17) rfl)) (notFace_of_selects (args := #[]) (mvT hZ (hw _ (List.mem_of_getElem? (i := 16) rfl)))) (by decide) (by decide +kernel : parseMethodDescriptor "()[I" = some ⟨[], (some (.array .int))⟩) rfl (g := (mkF m 67 #[.val (.int x0), .val (.int x1), .val (.int x2), .val (.int x3), .val (.int x4), .val (.int (2 : Int32)), .val (.ref a15), .unset, .unset] [(.ref a15)])) rfl (by rw [hml]; rfl) rfl 0 (by show 2 * 0 + _ ≤ _; exact Nat.le_of_eq rfl) (hb hby at_67) (by decide) (by decide) (by decide) (by decide)
    have N19 := Fr.app N18 Nc19
    have o_E_19 := ey.keep Kc19
    rw [← hr] at Ac19 Cc19 ne1 ne2 st19
    refine own_go st19 ?_
    show own_Go p e below _ (T19.setTop (mkF m 70 #[.val (.int x0), .val (.int x1), .val (.int x2), .val (.int x3), .val (.int x4), .val (.int (2 : Int32)), .val (.ref a15), .unset, .unset] [(.ref r)]))
    have A1 : own_AV Z T19.heap r .int [.int x0, .int x1] := Ac19
    have I2 : own_Ids Z T19.heap a15 b (((List.replicate 16 (.int 0)).set 0 (.int x0)).set 1 (.int x1)) (((0 : Int32) + 1) + 1) := ⟨I18.1.keep Kc19, I18.2.1.keep Kc19 nin0, I18.2.2.1.keep Kc19 nin0, I18.2.2.2.1.keep Kc19 nin0, I18.2.2.2.2.1.keep Kc19, I18.2.2.2.2.2⟩
    have gr : h0.size ≤ r := by rw [hr]; exact g1
    refine own_go (fun _ => XS.astore X19.here hx rfl (hb hby at_70) rfl rfl (l' := #[.val (.int x0), .val (.int x1), .val (.int x2), .val (.int x3), .val (.int x4), .val (.int (2 : Int32)), .val (.ref a15), .val (.ref r), .unset]) rfl) ?_
    show own_Go p e below _ (T19.setTop (mkF m 72 #[.val (.int x0), .val (.int x1), .val (.int x2), .val (.int x3), .val (.int x4), .val (.int (2 : Int32)), .val (.ref a15), .val (.ref r), .unset] []))
    refine own_go (fun _ => XS.aload X19.here hx rfl (hb hby at_72) rfl rfl) ?_
    show own_Go p e below _ (T19.setTop (mkF m 74 #[.val (.int x0), .val (.int x1), .val (.int x2), .val (.int x3), .val (.int x4), .val (.int (2 : Int32)), .val (.ref a15), .val (.ref r), .unset] [(.ref r)]))
    refine own_go (fun _ => XS.iload X19.here hx rfl (hb hby at_74) rfl) ?_
    show own_Go p e below _ (T19.setTop (mkF m 76 #[.val (.int x0), .val (.int x1), .val (.int x2), .val (.int x3), .val (.int x4), .val (.int (2 : Int32)), .val (.ref a15), .val (.ref r), .unset] [(.int (2 : Int32)), (.ref r)]))
    refine own_go (fun _ => XS.iloadN X19.here hx rfl (hb hby at_76) rfl) ?_
    show own_Go p e below _ (T19.setTop (mkF m 77 #[.val (.int x0), .val (.int x1), .val (.int x2), .val (.int x3), .val (.int x4), .val (.int (2 : Int32)), .val (.ref a15), .val (.ref r), .unset] [(.int x0), (.int (2 : Int32)), (.ref r)]))
    refine own_go (fun _ => XS.iloadN X19.here hx rfl (hb hby at_77) rfl) ?_
    show own_Go p e below _ (T19.setTop (mkF m 78 #[.val (.int x0), .val (.int x1), .val (.int x2), .val (.int x3), .val (.int x4), .val (.int (2 : Int32)), .val (.ref a15), .val (.ref r), .unset] [(.int x1), (.int x0), (.int (2 : Int32)), (.ref r)]))
    refine own_go (fun _ => XS.iloadN X19.here hx rfl (hb hby at_78) rfl) ?_
    show own_Go p e below _ (T19.setTop (mkF m 79 #[.val (.int x0), .val (.int x1), .val (.int x2), .val (.int x3), .val (.int x4), .val (.int (2 : Int32)), .val (.ref a15), .val (.ref r), .unset] [(.int x2), (.int x1), (.int x0), (.int (2 : Int32)), (.ref r)]))
    refine own_go (fun _ => XS.iloadN X19.here hx rfl (hb hby at_79) rfl) ?_
    show own_Go p e below _ (T19.setTop (mkF m 80 #[.val (.int x0), .val (.int x1), .val (.int x2), .val (.int x3), .val (.int x4), .val (.int (2 : Int32)), .val (.ref a15), .val (.ref r), .unset] [(.int x3), (.int x2), (.int x1), (.int x0), (.int (2 : Int32)), (.ref r)]))
    obtain ⟨_, T20, L20, X20, ⟨rfl, eh20, rfl⟩, st20⟩ := own_callS X19 hx hZ hown (argsL := [(.ref r), (.int (2 : Int32)), (.int x0), (.int x1), (.int x2), (.int x3)]) (rest := []) (own_matches_con l Z a0 hw r [.int x0, .int x1] (2 : Int32) x0 x1 x2 x3 T19.heap A1 (by first | rfl | simp) (fun _ => rfl) (fun _ => rfl) (fun q => absurd q (by simp)) (fun q => absurd q (by simp)) []) rfl (hw _ (List.mem_of_getElem? (i := 32) rfl)) (hw _ (List.mem_of_getElem? (i := 33) rfl)) (hw _ (List.mem_of_getElem? (i := 34) rfl)) (hw _ (List.mem_of_getElem? (i := 35) rfl)) (by decide) (by decide +kernel : parseMethodDescriptor "([IIIIII)Z" = some ⟨[(.array .int), .int, .int, .int, .int, .int], some .boolean⟩) rfl (g := (mkF m 80 #[.val (.int x0), .val (.int x1), .val (.int x2), .val (.int x3), .val (.int x4), .val (.int (2 : Int32)), .val (.ref a15), .val (.ref r), .unset] [(.int x3), (.int x2), (.int x1), (.int x0), (.int (2 : Int32)), (.ref r)])) rfl (by rw [hml]; rfl) rfl 0 (by show 2 * 0 + _ ≤ _; exact Nat.le_of_eq rfl) (hb hby at_80) (by decide) (by decide) (by decide) (by decide)
    rw [List.append_nil] at X20
    refine own_go st20 ?_
    show own_Go p e below _ (T20.setTop (mkF m 83 #[.val (.int x0), .val (.int x1), .val (.int x2), .val (.int x3), .val (.int x4), .val (.int (2 : Int32)), .val (.ref a15), .val (.ref r), .unset] [(.int (1 : Int32))]))
    refine own_go (fun _ => XS.ifYes X20.here hx rfl (pc0 := 83) (pc' := 88) rfl (hb hby at_83) rfl (XT.i0_ne_t (by decide)) (by decide) (by decide)) ?_
    show own_Go p e below _ (T20.setTop (mkF m 88 #[.val (.int x0), .val (.int x1), .val (.int x2), .val (.int x3), .val (.int x4), .val (.int (2 : Int32)), .val (.ref a15), .val (.ref r), .unset] []))
    refine own_go (fun _ => XS.iload X20.here hx rfl (hb hby at_88) rfl) ?_
    show own_Go p e below _ (T20.setTop (mkF m 90 #[.val (.int x0), .val (.int x1), .val (.int x2), .val (.int x3), .val (.int x4), .val (.int (2 : Int32)), .val (.ref a15), .val (.ref r), .unset] [(.int (2 : Int32))]))
    refine own_go (fun _ => XS.ifNo X20.here hx rfl (hb hby at_90) rfl (XT.i0_le_f (by decide))) ?_
    show own_Go p e below _ (T20.setTop (mkF m 93 #[.val (.int x0), .val (.int x1), .val (.int x2), .val (.int x3), .val (.int x4), .val (.int (2 : Int32)), .val (.ref a15), .val (.ref r), .unset] []))
    refine own_go (fun _ => XS.aload X20.here hx rfl (hb hby at_93) rfl rfl) ?_
    show own_Go p e below _ (T20.setTop (mkF m 95 #[.val (.int x0), .val (.int x1), .val (.int x2), .val (.int x3), .val (.int x4), .val (.int (2 : Int32)), .val (.ref a15), .val (.ref r), .unset] [(.ref r)]))
    refine own_go (fun _ => XS.iconst X20.here hx rfl (hb hby at_95)) ?_
    show own_Go p e below _ (T20.setTop (mkF m 96 #[.val (.int x0), .val (.int x1), .val (.int x2), .val (.int x3), .val (.int x4), .val (.int (2 : Int32)), .val (.ref a15), .val (.ref r), .unset] [(.int (0 : Int32)), (.ref r)]))
    refine own_go (fun _ => XS.aload X20.here hx rfl (hb hby at_96) rfl rfl) ?_
    show own_Go p e below _ (T20.setTop (mkF m 98 #[.val (.int x0), .val (.int x1), .val (.int x2), .val (.int x3), .val (.int x4), .val (.int (2 : Int32)), .val (.ref a15), .val (.ref r), .unset] [(.ref r), (.int (0 : Int32)), (.ref r)]))
    refine own_go (fun _ => XS.iconst X20.here hx rfl (hb hby at_98)) ?_
    show own_Go p e below _ (T20.setTop (mkF m 99 #[.val (.int x0), .val (.int x1), .val (.int x2), .val (.int x3), .val (.int x4), .val (.int (2 : Int32)), .val (.ref a15), .val (.ref r), .unset] [(.int (0 : Int32)), (.ref r), (.int (0 : Int32)), (.ref r)]))
    refine own_go (own_ldI X20 hx hZ eh20 A1 (g := (mkF m 99 #[.val (.int x0), .val (.int x1), .val (.int x2), .val (.int x3), .val (.int x4), .val (.int (2 : Int32)), .val (.ref a15), .val (.ref r), .unset] [(.int (0 : Int32)), (.ref r), (.int (0 : Int32)), (.ref r)])) rfl rfl (hb hby at_99) 0 (by decide) (x := (.int x0)) rfl) ?_
    show own_Go p e below _ (T20.setTop (mkF m 100 #[.val (.int x0), .val (.int x1), .val (.int x2), .val (.int x3), .val (.int x4), .val (.int (2 : Int32)), .val (.ref a15), .val (.ref r), .unset] [(.int x0), (.int (0 : Int32)), (.ref r)]))
    refine own_go (fun _ => XS.iconst X20.here hx rfl (hb hby at_100)) ?_
    show own_Go p e below _ (T20.setTop (mkF m 101 #[.val (.int x0), .val (.int x1), .val (.int x2), .val (.int x3), .val (.int x4), .val (.int (2 : Int32)), .val (.ref a15), .val (.ref r), .unset] [(.int (-1 : Int32)), (.int x0), (.int (0 : Int32)), (.ref r)]))
    refine own_go (fun _ => XT.ixor X20.here hx rfl (hb hby at_101) rfl) ?_
    show own_Go p e below _ (T20.setTop (mkF m 102 #[.val (.int x0), .val (.int x1), .val (.int x2), .val (.int x3), .val (.int x4), .val (.int (2 : Int32)), .val (.ref a15), .val (.ref r), .unset] [(.int (x0 ^^^ (-1 : Int32))), (.int (0 : Int32)), (.ref r)]))
    obtain ⟨T21, h21, X21, e21, W21, A21, st21⟩ := own_stI X20 hx hZ eh20 A1 (g := (mkF m 102 #[.val (.int x0), .val (.int x1), .val (.int x2), .val (.int x3), .val (.int x4), .val (.int (2 : Int32)), .val (.ref a15), .val (.ref r), .unset] [(.int (x0 ^^^ (-1 : Int32))), (.int (0 : Int32)), (.ref r)])) rfl rfl (hb hby at_102) 0 (by decide) (by simp)
    have N21 := Fr.snoc X21 N19 gr
    refine own_go st21 ?_
    show own_Go p e below _ (T21.setTop (mkF m 103 #[.val (.int x0), .val (.int x1), .val (.int x2), .val (.int x3), .val (.int x4), .val (.int (2 : Int32)), .val (.ref a15), .val (.ref r), .unset] []))
    have I3 : own_Ids Z h21 a15 b (((List.replicate 16 (.int 0)).set 0 (.int x0)).set 1 (.int x1)) (((0 : Int32) + 1) + 1) := ⟨I2.1.wr W21, I2.2.1.other W21 (Or.inl ne2), I2.2.2.1.other W21 (Or.inl ne2), I2.2.2.2.1.other W21 ne1, I2.2.2.2.2.1.wr W21, I2.2.2.2.2.2⟩
    have rl : r < h21.size := A21.lt
    refine own_go (fun _ => XS.aload X21.here hx rfl (hb hby at_103) rfl rfl) ?_
    show own_Go p e below _ (T21.setTop (mkF m 105 #[.val (.int x0), .val (.int x1), .val (.int x2), .val (.int x3), .val (.int x4), .val (.int (2 : Int32)), .val (.ref a15), .val (.ref r), .unset] [(.ref a15)]))
    obtain ⟨ez, _⟩ := id I3
    have g2 : h0.size ≤ h21.size := Nat.le_trans gb (Nat.le_of_lt I3.2.2.2.1.lt)
    obtain ⟨r2, hr2⟩ : ∃ z, z = h21.size := ⟨_, rfl⟩
    obtain ⟨_, T22, L22, X22, ⟨rfl, Nc22, Kc22, Ac22, Cc22⟩, st22⟩ := own_callV X21 hx hZ hown (argsL := []) (rest := []) (own_toArray_con l Z a0 hw a15 b (((List.replicate 16 (.int 0)).set 0 (.int x0)).set 1 (.int x1)) (((0 : Int32) + 1) + 1) 2 h0.size h21 I3 (by decide) (by simp) (by decide) g2 []) e21 ez (hw _ (List.mem_of_getElem? (i := 13) rfl)) (hw _ (List.mem_of_getElem? (i := 14) rfl)) (hw _ (List.mem_of_getElem? (i := 16) rfl)) (hw _ (List.mem_of_getElem? (i := 15) rfl)) (hw _ (List.mem_of_getElem? (i := 3) rfl)) (hw _ (List.mem_of_getElem? (i := 17) rfl)) (notFace_of_selects (args := #[]) (mvT hZ (hw _ (List.mem_of_getElem? (i := 16) rfl)))) (by decide) (by decide +kernel : parseMethodDescriptor "()[I" = some ⟨[], (some (.array .int))⟩) rfl (g := (mkF m 105 #[.val (.int x0), .val (.int x1), .val (.int x2), .val (.int x3), .val (.int x4), .val (.int (2 : Int32)), .val (.ref a15), .val (.ref r), .unset] [(.ref a15)])) rfl (by rw [hml]; rfl) rfl 0 (by show 2 * 0 + _ ≤ _; exact Nat.le_of_eq rfl) (hb hby at_105) (by decide) (by decide) (by decide) (by decide)
    have N22 := Fr.app N21 Nc22
    have o_E_22 := ez.keep Kc22
    rw [← hr2] at Ac22 Cc22 st22 rl
    refine own_go st22 ?_
    show own_Go p e below _ (T22.setTop (mkF m 108 #[.val (.int x0), .val (.int x1), .val (.int x2), .val (.int x3), .val (.int x4), .val (.int (2 : Int32)), .val (.ref a15), .val (.ref r), .unset] [(.ref r2)]))
    have A2 : own_AV Z T22.heap r2 .int [.int x0, .int x1] := Ac22
    refine own_go (fun _ => XS.astore X22.here hx rfl (hb hby at_108) rfl rfl (l' := #[.val (.int x0), .val (.int x1), .val (.int x2), .val (.int x3), .val (.int x4), .val (.int (2 : Int32)), .val (.ref a15), .val (.ref r), .val (.ref r2)]) rfl) ?_
    show own_Go p e below _ (T22.setTop (mkF m 110 #[.val (.int x0), .val (.int x1), .val (.int x2), .val (.int x3), .val (.int x4), .val (.int (2 : Int32)), .val (.ref a15), .val (.ref r), .val (.ref r2)] []))
    refine own_go (fun _ => XS.aload X22.here hx rfl (hb hby at_110) rfl rfl) ?_
    show own_Go p e below _ (T22.setTop (mkF m 112 #[.val (.int x0), .val (.int x1), .val (.int x2), .val (.int x3), .val (.int x4), .val (.int (2 : Int32)), .val (.ref a15), .val (.ref r), .val (.ref r2)] [(.ref r2)]))
    refine own_go (fun _ => XS.aload X22.here hx rfl (hb hby at_112) rfl rfl) ?_
    show own_Go p e below _ (T22.setTop (mkF m 114 #[.val (.int x0), .val (.int x1), .val (.int x2), .val (.int x3), .val (.int x4), .val (.int (2 : Int32)), .val (.ref a15), .val (.ref r), .val (.ref r2)] [(.ref r), (.ref r2)]))
    refine own_go (fun _ => XT.acmpYes X22.here hx rfl (pc0 := 114) (pc' := 119) rfl (hb hby at_114) rfl rfl rfl (XT.aa_ne_t (fun z => absurd rl (by cases z; exact Nat.lt_irrefl _))) (by decide) (by decide)) ?_
    show own_Go p e below _ (T22.setTop (mkF m 119 #[.val (.int x0), .val (.int x1), .val (.int x2), .val (.int x3), .val (.int x4), .val (.int (2 : Int32)), .val (.ref a15), .val (.ref r), .val (.ref r2)] []))
    refine own_go (fun _ => XS.aload X22.here hx rfl (hb hby at_119) rfl rfl) ?_
    show own_Go p e below _ (T22.setTop (mkF m 121 #[.val (.int x0), .val (.int x1), .val (.int x2), .val (.int x3), .val (.int x4), .val (.int (2 : Int32)), .val (.ref a15), .val (.ref r), .val (.ref r2)] [(.ref r2)]))
    refine own_go (fun _ => XS.iload X22.here hx rfl (hb hby at_121) rfl) ?_
    show own_Go p e below _ (T22.setTop (mkF m 123 #[.val (.int x0), .val (.int x1), .val (.int x2), .val (.int x3), .val (.int x4), .val (.int (2 : Int32)), .val (.ref a15), .val (.ref r), .val (.ref r2)] [(.int (2 : Int32)), (.ref r2)]))
    refine own_go (fun _ => XS.iloadN X22.here hx rfl (hb hby at_123) rfl) ?_
    show own_Go p e below _ (T22.setTop (mkF m 124 #[.val (.int x0), .val (.int x1), .val (.int x2), .val (.int x3), .val (.int x4), .val (.int (2 : Int32)), .val (.ref a15), .val (.ref r), .val (.ref r2)] [(.int x0), (.int (2 : Int32)), (.ref r2)]))
    refine own_go (fun _ => XS.iloadN X22.here hx rfl (hb hby at_124) rfl) ?_
    show own_Go p e below _ (T22.setTop (mkF m 125 #[.val (.int x0), .val (.int x1), .val (.int x2), .val (.int x3), .val (.int x4), .val (.int (2 : Int32)), .val (.ref a15), .val (.ref r), .val (.ref r2)] [(.int x1), (.int x0), (.int (2 : Int32)), (.ref r2)]))
    refine own_go (fun _ => XS.iloadN X22.here hx rfl (hb hby at_125) rfl) ?_
    show own_Go p e below _ (T22.setTop (mkF m 126 #[.val (.int x0), .val (.int x1), .val (.int x2), .val (.int x3), .val (.int x4), .val (.int (2 : Int32)), .val (.ref a15), .val (.ref r), .val (.ref r2)] [(.int x2), (.int x1), (.int x0), (.int (2 : Int32)), (.ref r2)]))
    refine own_go (fun _ => XS.iloadN X22.here hx rfl (hb hby at_126) rfl) ?_
    show own_Go p e below _ (T22.setTop (mkF m 127 #[.val (.int x0), .val (.int x1), .val (.int x2), .val (.int x3), .val (.int x4), .val (.int (2 : Int32)), .val (.ref a15), .val (.ref r), .val (.ref r2)] [(.int x3), (.int x2), (.int x1), (.int x0), (.int (2 : Int32)), (.ref r2)]))
    obtain ⟨_, T23, L23, X23, ⟨rfl, eh23, rfl⟩, st23⟩ := own_callS X22 hx hZ hown (argsL := [(.ref r2), (.int (2 : Int32)), (.int x0), (.int x1), (.int x2), (.int x3)]) (rest := []) (own_matches_con l Z a0 hw r2 [.int x0, .int x1] (2 : Int32) x0 x1 x2 x3 T22.heap A2 (by first | rfl | simp) (fun _ => rfl) (fun _ => rfl) (fun q => absurd q (by simp)) (fun q => absurd q (by simp)) []) rfl (hw _ (List.mem_of_getElem? (i := 32) rfl)) (hw _ (List.mem_of_getElem? (i := 33) rfl)) (hw _ (List.mem_of_getElem? (i := 34) rfl)) (hw _ (List.mem_of_getElem? (i := 35) rfl)) (by decide) (by decide +kernel : parseMethodDescriptor "([IIIIII)Z" = some ⟨[(.array .int), .int, .int, .int, .int, .int], some .boolean⟩) rfl (g := (mkF m 127 #[.val (.int x0), .val (.int x1), .val (.int x2), .val (.int x3), .val (.int x4), .val (.int (2 : Int32)), .val (.ref a15), .val (.ref r), .val (.ref r2)] [(.int x3), (.int x2), (.int x1), (.int x0), (.int (2 : Int32)), (.ref r2)])) rfl (by rw [hml]; rfl) rfl 0 (by show 2 * 0 + _ ≤ _; exact Nat.le_of_eq rfl) (hb hby at_127) (by decide) (by decide) (by decide) (by decide)
    rw [List.append_nil] at X23
    refine own_go st23 ?_
    show own_Go p e below _ (T23.setTop (mkF m 130 #[.val (.int x0), .val (.int x1), .val (.int x2), .val (.int x3), .val (.int x4), .val (.int (2 : Int32)), .val (.ref a15), .val (.ref r), .val (.ref r2)] [(.int (1 : Int32))]))
    exact own_iret X23 hx hlk hret (Or.inr (Or.inl rfl)) rfl (hb hby at_130) (by decide) (by decide) ⟨rfl, N22⟩
  · skip
    rw [hn]
    show own_Go p e below _ (T.setTop (mkF m 7 #[.val (.int x0), .val (.int x1), .val (.int x2), .val (.int x3), .val (.int x4), .unset, .unset, .unset, .unset] [(.int (3 : Int32))]))
    refine own_go (fun _ => XS.istore X.here hx rfl (hb hby at_7) rfl (l' := #[.val (.int x0), .val (.int x1), .val (.int x2), .val (.int x3), .val (.int x4), .val (.int (3 : Int32)), .unset, .unset, .unset]) rfl) ?_
    show own_Go p e below _ (T.setTop (mkF m 9 #[.val (.int x0), .val (.int x1), .val (.int x2), .val (.int x3), .val (.int x4), .val (.int (3 : Int32)), .unset, .unset, .unset] []))
    obtain ⟨T24, h24, X24, e24, E24, C24, D24, -, st24⟩ := newO X hx hZ hown (hw _ (List.mem_of_getElem? (i := 1) rfl)) (hw _ (List.mem_of_getElem? (i := 2) rfl)) (hw _ (List.mem_of_getElem? (i := 3) rfl)) eT (g := (mkF m 9 #[.val (.int x0), .val (.int x1), .val (.int x2), .val (.int x3), .val (.int x4), .val (.int (3 : Int32)), .unset, .unset, .unset] [])) rfl (hb hby at_9) (by decide) (by decide)
    obtain ⟨a24, q24⟩ : ∃ z, z = h0.size := ⟨_, rfl⟩
    rw [← q24] at C24 D24 st24
    have o_ids_24 := D24 (Or.inl (hw _ (List.mem_of_getElem? (i := 12) rfl))) (ty := (.array .int)) (by decide)
    have o_size_24 := D24 (Or.inl (hw _ (List.mem_of_getElem? (i := 19) rfl))) (ty := .int) (by decide)
    refine own_go st24 ?_
    show own_Go p e below _ (T24.setTop (mkF m 12 #[.val (.int x0), .val (.int x1), .val (.int x2), .val (.int x3), .val (.int x4), .val (.int (3 : Int32)), .unset, .unset, .unset] [(.ref a24)]))
    refine own_go (fun _ => XS.dup X24.here hx rfl (hb hby at_12) rfl rfl) ?_
    show own_Go p e below _ (T24.setTop (mkF m 13 #[.val (.int x0), .val (.int x1), .val (.int x2), .val (.int x3), .val (.int x4), .val (.int (3 : Int32)), .unset, .unset, .unset] [(.ref a24), (.ref a24)]))
    have ga : h0.size ≤ a24 := Nat.le_of_eq q24.symm
    have gn : h0.size ≤ h24.size := E24.1
    obtain ⟨b, hbv⟩ : ∃ z, z = h24.size := ⟨_, rfl⟩
    obtain ⟨_, T25, L25, X25, ⟨rfl, Nc25, Kc25, I25⟩, st25⟩ := own_callI X24 hx hZ hown rfl (argsL := []) (rest := [(.ref a24)]) (own_init_con l Z a0 hw a24 h0.size h24 C24 o_ids_24 o_size_24 ga gn []) e24 (hw _ (List.mem_of_getElem? (i := 4) rfl)) (hw _ (List.mem_of_getElem? (i := 5) rfl)) (hw _ (List.mem_of_getElem? (i := 3) rfl)) (hw _ (List.mem_of_getElem? (i := 6) rfl)) (by decide) (by decide +kernel : parseMethodDescriptor "()V" = some ⟨[], none⟩) rfl (g := (mkF m 13 #[.val (.int x0), .val (.int x1), .val (.int x2), .val (.int x3), .val (.int x4), .val (.int (3 : Int32)), .unset, .unset, .unset] [(.ref a24), (.ref a24)])) rfl (by rw [hml]; rfl) rfl 1 (by show 2 * 0 + _ ≤ _; exact Nat.le_of_eq rfl) (hb hby at_13) (by decide) (by decide) (by decide) (by decide)
    have N25 := Fr.app N0 Nc25
    have o_E_25 := C24.keep Kc25
    refine own_go st25 ?_
    show own_Go p e below _ (T25.setTop (mkF m 16 #[.val (.int x0), .val (.int x1), .val (.int x2), .val (.int x3), .val (.int x4), .val (.int (3 : Int32)), .unset, .unset, .unset] [(.ref a24)]))
    rw [← hbv] at I25
    have gb : h0.size ≤ b := by rw [hbv]; exact gn
    refine own_go (fun _ => XS.astore X25.here hx rfl (hb hby at_16) rfl rfl (l' := #[.val (.int x0), .val (.int x1), .val (.int x2), .val (.int x3), .val (.int x4), .val (.int (3 : Int32)), .val (.ref a24), .unset, .unset]) rfl) ?_
    show own_Go p e below _ (T25.setTop (mkF m 18 #[.val (.int x0), .val (.int x1), .val (.int x2), .val (.int x3), .val (.int x4), .val (.int (3 : Int32)), .val (.ref a24), .unset, .unset] []))
    refine own_go (fun _ => XS.iload X25.here hx rfl (hb hby at_18) rfl) ?_
    show own_Go p e below _ (T25.setTop (mkF m 20 #[.val (.int x0), .val (.int x1), .val (.int x2), .val (.int x3), .val (.int x4), .val (.int (3 : Int32)), .val (.ref a24), .unset, .unset] [(.int (3 : Int32))]))
    refine own_go (fun _ => XS.ifNo X25.here hx rfl (hb hby at_20) rfl (XT.i0_le_f (by decide))) ?_
    show own_Go p e below _ (T25.setTop (mkF m 23 #[.val (.int x0), .val (.int x1), .val (.int x2), .val (.int x3), .val (.int x4), .val (.int (3 : Int32)), .val (.ref a24), .unset, .unset] []))
    refine own_go (fun _ => XS.aload X25.here hx rfl (hb hby at_23) rfl rfl) ?_
    show own_Go p e below _ (T25.setTop (mkF m 25 #[.val (.int x0), .val (.int x1), .val (.int x2), .val (.int x3), .val (.int x4), .val (.int (3 : Int32)), .val (.ref a24), .unset, .unset] [(.ref a24)]))
    refine own_go (fun _ => XS.iloadN X25.here hx rfl (hb hby at_25) rfl) ?_
    show own_Go p e below _ (T25.setTop (mkF m 26 #[.val (.int x0), .val (.int x1), .val (.int x2), .val (.int x3), .val (.int x4), .val (.int (3 : Int32)), .val (.ref a24), .unset, .unset] [(.int x0), (.ref a24)]))
    obtain ⟨ex0, _⟩ := id I25
    obtain ⟨_, T26, L26, X26, ⟨rfl, Nc26, Kc26, I26⟩, st26⟩ := own_callV X25 hx hZ hown (argsL := [(.int x0)]) (rest := []) (own_add_con l Z a0 hw a24 b (List.replicate 16 (.int 0)) (0 : Int32) x0 0 h0.size T25.heap I25 (by decide) (by simp) ga gb []) rfl ex0 (hw _ (List.mem_of_getElem? (i := 36) rfl)) (hw _ (List.mem_of_getElem? (i := 37) rfl)) (hw _ (List.mem_of_getElem? (i := 39) rfl)) (hw _ (List.mem_of_getElem? (i := 38) rfl)) (hw _ (List.mem_of_getElem? (i := 3) rfl)) (hw _ (List.mem_of_getElem? (i := 40) rfl)) (notFace_of_selects (args := #[]) (mvT hZ (hw _ (List.mem_of_getElem? (i := 39) rfl)))) (by decide) (by decide +kernel : parseMethodDescriptor "(I)V" = some ⟨[.int], none⟩) rfl (g := (mkF m 26 #[.val (.int x0), .val (.int x1), .val (.int x2), .val (.int x3), .val (.int x4), .val (.int (3 : Int32)), .val (.ref a24), .unset, .unset] [(.int x0), (.ref a24)])) rfl (by rw [hml]; rfl) rfl 0 (by show 2 * 0 + _ ≤ _; exact Nat.le_of_eq rfl) (hb hby at_26) (by decide) (by decide) (by decide) (by decide)
    have N26 := Fr.app N25 Nc26
    have o_E_26 := ex0.keep Kc26
    refine own_go st26 ?_
    show own_Go p e below _ (T26.setTop (mkF m 29 #[.val (.int x0), .val (.int x1), .val (.int x2), .val (.int x3), .val (.int x4), .val (.int (3 : Int32)), .val (.ref a24), .unset, .unset] []))
    refine own_go (fun _ => XS.iload X26.here hx rfl (hb hby at_29) rfl) ?_
    show own_Go p e below _ (T26.setTop (mkF m 31 #[.val (.int x0), .val (.int x1), .val (.int x2), .val (.int x3), .val (.int x4), .val (.int (3 : Int32)), .val (.ref a24), .unset, .unset] [(.int (3 : Int32))]))
    refine own_go (fun _ => XS.iconst X26.here hx rfl (hb hby at_31)) ?_
    show own_Go p e below _ (T26.setTop (mkF m 32 #[.val (.int x0), .val (.int x1), .val (.int x2), .val (.int x3), .val (.int x4), .val (.int (3 : Int32)), .val (.ref a24), .unset, .unset] [(.int (1 : Int32)), (.int (3 : Int32))]))
    refine own_go (fun _ => XS.icmpNo X26.here hx rfl (hb hby at_32) rfl (XT.ii_le_f (by decide))) ?_
    show own_Go p e below _ (T26.setTop (mkF m 35 #[.val (.int x0), .val (.int x1), .val (.int x2), .val (.int x3), .val (.int x4), .val (.int (3 : Int32)), .val (.ref a24), .unset, .unset] []))
    refine own_go (fun _ => XS.aload X26.here hx rfl (hb hby at_35) rfl rfl) ?_
    show own_Go p e below _ (T26.setTop (mkF m 37 #[.val (.int x0), .val (.int x1), .val (.int x2), .val (.int x3), .val (.int x4), .val (.int (3 : Int32)), .val (.ref a24), .unset, .unset] [(.ref a24)]))
    refine own_go (fun _ => XS.iloadN X26.here hx rfl (hb hby at_37) rfl) ?_
    show own_Go p e below _ (T26.setTop (mkF m 38 #[.val (.int x0), .val (.int x1), .val (.int x2), .val (.int x3), .val (.int x4), .val (.int (3 : Int32)), .val (.ref a24), .unset, .unset] [(.int x1), (.ref a24)]))
    obtain ⟨ex1, _⟩ := id I26
    obtain ⟨_, T27, L27, X27, ⟨rfl, Nc27, Kc27, I27⟩, st27⟩ := own_callV X26 hx hZ hown (argsL := [(.int x1)]) (rest := []) (own_add_con l Z a0 hw a24 b ((List.replicate 16 (.int 0)).set 0 (.int x0)) ((0 : Int32) + 1) x1 1 h0.size T26.heap I26 (by decide) (by simp) ga gb []) rfl ex1 (hw _ (List.mem_of_getElem? (i := 36) rfl)) (hw _ (List.mem_of_getElem? (i := 37) rfl)) (hw _ (List.mem_of_getElem? (i := 39) rfl)) (hw _ (List.mem_of_getElem? (i := 38) rfl)) (hw _ (List.mem_of_getElem? (i := 3) rfl)) (hw _ (List.mem_of_getElem? (i := 40) rfl)) (notFace_of_selects (args := #[]) (mvT hZ (hw _ (List.mem_of_getElem? (i := 39) rfl)))) (by decide) (by decide +kernel : parseMethodDescriptor "(I)V" = some ⟨[.int], none⟩) rfl (g := (mkF m 38 #[.val (.int x0), .val (.int x1), .val (.int x2), .val (.int x3), .val (.int x4), .val (.int (3 : Int32)), .val (.ref a24), .unset, .unset] [(.int x1), (.ref a24)])) rfl (by rw [hml]; rfl) rfl 0 (by show 2 * 0 + _ ≤ _; exact Nat.le_of_eq rfl) (hb hby at_38) (by decide) (by decide) (by decide) (by decide)
    have N27 := Fr.app N26 Nc27
    have o_E_27 := ex1.keep Kc27
    refine own_go st27 ?_
    show own_Go p e below _ (T27.setTop (mkF m 41 #[.val (.int x0), .val (.int x1), .val (.int x2), .val (.int x3), .val (.int x4), .val (.int (3 : Int32)), .val (.ref a24), .unset, .unset] []))
    refine own_go (fun _ => XS.iload X27.here hx rfl (hb hby at_41) rfl) ?_
    show own_Go p e below _ (T27.setTop (mkF m 43 #[.val (.int x0), .val (.int x1), .val (.int x2), .val (.int x3), .val (.int x4), .val (.int (3 : Int32)), .val (.ref a24), .unset, .unset] [(.int (3 : Int32))]))
    refine own_go (fun _ => XS.iconst X27.here hx rfl (hb hby at_43)) ?_
    show own_Go p e below _ (T27.setTop (mkF m 44 #[.val (.int x0), .val (.int x1), .val (.int x2), .val (.int x3), .val (.int x4), .val (.int (3 : Int32)), .val (.ref a24), .unset, .unset] [(.int (2 : Int32)), (.int (3 : Int32))]))
    refine own_go (fun _ => XS.icmpNo X27.here hx rfl (hb hby at_44) rfl (XT.ii_le_f (by decide))) ?_
    show own_Go p e below _ (T27.setTop (mkF m 47 #[.val (.int x0), .val (.int x1), .val (.int x2), .val (.int x3), .val (.int x4), .val (.int (3 : Int32)), .val (.ref a24), .unset, .unset] []))
    refine own_go (fun _ => XS.aload X27.here hx rfl (hb hby at_47) rfl rfl) ?_
    show own_Go p e below _ (T27.setTop (mkF m 49 #[.val (.int x0), .val (.int x1), .val (.int x2), .val (.int x3), .val (.int x4), .val (.int (3 : Int32)), .val (.ref a24), .unset, .unset] [(.ref a24)]))
    refine own_go (fun _ => XS.iloadN X27.here hx rfl (hb hby at_49) rfl) ?_
    show own_Go p e below _ (T27.setTop (mkF m 50 #[.val (.int x0), .val (.int x1), .val (.int x2), .val (.int x3), .val (.int x4), .val (.int (3 : Int32)), .val (.ref a24), .unset, .unset] [(.int x2), (.ref a24)]))
    obtain ⟨ex2, _⟩ := id I27
    obtain ⟨_, T28, L28, X28, ⟨rfl, Nc28, Kc28, I28⟩, st28⟩ := own_callV X27 hx hZ hown (argsL := [(.int x2)]) (rest := []) (own_add_con l Z a0 hw a24 b (((List.replicate 16 (.int 0)).set 0 (.int x0)).set 1 (.int x1)) (((0 : Int32) + 1) + 1) x2 2 h0.size T27.heap I27 (by decide) (by simp) ga gb []) rfl ex2 (hw _ (List.mem_of_getElem? (i := 36) rfl)) (hw _ (List.mem_of_getElem? (i := 37) rfl)) (hw _ (List.mem_of_getElem? (i := 39) rfl)) (hw _ (List.mem_of_getElem? (i := 38) rfl)) (hw _ (List.mem_of_getElem? (i := 3) rfl)) (hw _ (List.mem_of_getElem? (i := 40) rfl)) (notFace_of_selects (args := #[]) (mvT hZ (hw _ (List.mem_of_getElem? (i := 39) rfl)))) (by decide) (by decide +kernel : parseMethodDescriptor "(I)V" = some ⟨[.int], none⟩) rfl (g := (mkF m 50 #[.val (.int x0), .val (.int x1), .val (.int x2), .val (.int x3), .val (.int x4), .val (.int (3 : Int32)), .val (.ref a24), .unset, .unset] [(.int x2), (.ref a24)])) rfl (by rw [hml]; rfl) rfl 0 (by show 2 * 0 + _ ≤ _; exact Nat.le_of_eq rfl) (hb hby at_50) (by decide) (by decide) (by decide) (by decide)
    have N28 := Fr.app N27 Nc28
    have o_E_28 := ex2.keep Kc28
    refine own_go st28 ?_
    show own_Go p e below _ (T28.setTop (mkF m 53 #[.val (.int x0), .val (.int x1), .val (.int x2), .val (.int x3), .val (.int x4), .val (.int (3 : Int32)), .val (.ref a24), .unset, .unset] []))
    refine own_go (fun _ => XS.iload X28.here hx rfl (hb hby at_53) rfl) ?_
    show own_Go p e below _ (T28.setTop (mkF m 55 #[.val (.int x0), .val (.int x1), .val (.int x2), .val (.int x3), .val (.int x4), .val (.int (3 : Int32)), .val (.ref a24), .unset, .unset] [(.int (3 : Int32))]))
    refine own_go (fun _ => XS.iconst X28.here hx rfl (hb hby at_55)) ?_
    show own_Go p e below _ (T28.setTop (mkF m 56 #[.val (.int x0), .val (.int x1), .val (.int x2), .val (.int x3), .val (.int x4), .val (.int (3 : Int32)), .val (.ref a24), .unset, .unset] [(.int (3 : Int32)), (.int (3 : Int32))]))
    refine own_go (fun _ => XS.icmpYes X28.here hx rfl (pc0 := 56) (pc' := 65) rfl (hb hby at_56) rfl (XT.ii_le_t (by decide)) (by decide) (by decide)) ?_
    show own_Go p e below _ (T28.setTop (mkF m 65 #[.val (.int x0), .val (.int x1), .val (.int x2), .val (.int x3), .val (.int x4), .val (.int (3 : Int32)), .val (.ref a24), .unset, .unset] []))
    refine own_go (fun _ => XS.aload X28.here hx rfl (hb hby at_65) rfl rfl) ?_
    show own_Go p e below _ (T28.setTop (mkF m 67 #[.val (.int x0), .val (.int x1), .val (.int x2), .val (.int x3), .val (.int x4), .val (.int (3 : Int32)), .val (.ref a24), .unset, .unset] [(.ref a24)]))
    have g1 : h0.size ≤ T28.heap.size := Nat.le_trans gb (Nat.le_of_lt I28.2.2.2.1.lt)
    have ne1 : b ≠ T28.heap.size := Nat.ne_of_lt I28.2.2.2.1.lt
    have ne2 : a24 ≠ T28.heap.size := Nat.ne_of_lt I28.1.lt
    obtain ⟨r, hr⟩ : ∃ z, z = T28.heap.size := ⟨_, rfl⟩
    obtain ⟨ey, _⟩ := id I28
    obtain ⟨_, T29, L29, X29, ⟨rfl, Nc29, Kc29, Ac29, Cc29⟩, st29⟩ := own_callV X28 hx hZ hown (argsL := []) (rest := []) (own_toArray_con l Z a0 hw a24 b ((((List.replicate 16 (.int 0)).set 0 (.int x0)).set 1 (.int x1)).set 2 (.int x2)) ((((0 : Int32) + 1) + 1) + 1) 3 h0.size T28.heap I28 (by decide) (by simp) (by decide) g1 []) rfl ey (hw _ (List.mem_of_getElem? (i := 13) rfl)) (hw _ (List.mem_of_getElem? (i := 14) rfl)) (hw _ (List.mem_of_getElem? (i := 16) rfl)) (hw _ (List.mem_of_getElem? (i := 15) rfl)) (hw _ (List.mem_of_getElem? (i := 3) rfl)) (hw _ (List.mem_of_getElem? (i := 17) rfl)) (notFace_of_selects (args := #[]) (mvT hZ (hw _ (List.mem_of_getElem? (i := 16) rfl)))) (by decide) (by decide +kernel : parseMethodDescriptor "()[I" = some ⟨[], (some (.array .int))⟩) rfl (g := (mkF m 67 #[.val (.int x0), .val (.int x1), .val (.int x2), .val (.int x3), .val (.int x4), .val (.int (3 : Int32)), .val (.ref a24), .unset, .unset] [(.ref a24)])) rfl (by rw [hml]; rfl) rfl 0 (by show 2 * 0 + _ ≤ _; exact Nat.le_of_eq rfl) (hb hby at_67) (by decide) (by decide) (by decide) (by decide)
    have N29 := Fr.app N28 Nc29
    have o_E_29 := ey.keep Kc29
    rw [← hr] at Ac29 Cc29 ne1 ne2 st29
    refine own_go st29 ?_
    show own_Go p e below _ (T29.setTop (mkF m 70 #[.val (.int x0), .val (.int x1), .val (.int x2), .val (.int x3), .val (.int x4), .val (.int (3 : Int32)), .val (.ref a24), .unset, .unset] [(.ref r)]))
    have A1 : own_AV Z T29.heap r .int [.int x0, .int x1, .int x2] := Ac29
    have I2 : own_Ids Z T29.heap a24 b ((((List.replicate 16 (.int 0)).set 0 (.int x0)).set 1 (.int x1)).set 2 (.int x2)) ((((0 : Int32) + 1) + 1) + 1) := ⟨I28.1.keep Kc29, I28.2.1.keep Kc29 nin0, I28.2.2.1.keep Kc29 nin0, I28.2.2.2.1.keep Kc29 nin0, I28.2.2.2.2.1.keep Kc29, I28.2.2.2.2.2⟩
    have gr : h0.size ≤ r := by rw [hr]; exact g1
    refine own_go (fun _ => XS.astore X29.here hx rfl (hb hby at_70) rfl rfl (l' := #[.val (.int x0), .val (.int x1), .val (.int x2), .val (.int x3), .val (.int x4), .val (.int (3 : Int32)), .val (.ref a24), .val (.ref r), .unset]) rfl) ?_
    show own_Go p e below _ (T29.setTop (mkF m 72 #[.val (.int x0), .val (.int x1), .val (.int x2), .val (.int x3), .val (.int x4), .val (.int (3 : Int32)), .val (.ref a24), .val (.ref r), .unset] []))
    refine own_go (fun _ => XS.aload X29.here hx rfl (hb hby at_72) rfl rfl) ?_
    show own_Go p e below _ (T29.setTop (mkF m 74 #[.val (.int x0), .val (.int x1), .val (.int x2), .val (.int x3), .val (.int x4), .val (.int (3 : Int32)), .val (.ref a24), .val (.ref r), .unset] [(.ref r)]))
    refine own_go (fun _ => XS.iload X29.here hx rfl (hb hby at_74) rfl) ?_
    show own_Go p e below _ (T29.setTop (mkF m 76 #[.val (.int x0), .val (.int x1), .val (.int x2), .val (.int x3), .val (.int x4), .val (.int (3 : Int32)), .val (.ref a24), .val (.ref r), .unset] [(.int (3 : Int32)), (.ref r)]))
    refine own_go (fun _ => XS.iloadN X29.here hx rfl (hb hby at_76) rfl) ?_
    show own_Go p e below _ (T29.setTop (mkF m 77 #[.val (.int x0), .val (.int x1), .val (.int x2), .val (.int x3), .val (.int x4), .val (.int (3 : Int32)), .val (.ref a24), .val (.ref r), .unset] [(.int x0), (.int (3 : Int32)), (.ref r)]))
    refine own_go (fun _ => XS.iloadN X29.here hx rfl (hb hby at_77) rfl) ?_
    show own_Go p e below _ (T29.setTop (mkF m 78 #[.val (.int x0), .val (.int x1), .val (.int x2), .val (.int x3), .val (.int x4), .val (.int (3 : Int32)), .val (.ref a24), .val (.ref r), .unset] [(.int x1), (.int x0), (.int (3 : Int32)), (.ref r)]))
    refine own_go (fun _ => XS.iloadN X29.here hx rfl (hb hby at_78) rfl) ?_
    show own_Go p e below _ (T29.setTop (mkF m 79 #[.val (.int x0), .val (.int x1), .val (.int x2), .val (.int x3), .val (.int x4), .val (.int (3 : Int32)), .val (.ref a24), .val (.ref r), .unset] [(.int x2), (.int x1), (.int x0), (.int (3 : Int32)), (.ref r)]))
    refine own_go (fun _ => XS.iloadN X29.here hx rfl (hb hby at_79) rfl) ?_
    show own_Go p e below _ (T29.setTop (mkF m 80 #[.val (.int x0), .val (.int x1), .val (.int x2), .val (.int x3), .val (.int x4), .val (.int (3 : Int32)), .val (.ref a24), .val (.ref r), .unset] [(.int x3), (.int x2), (.int x1), (.int x0), (.int (3 : Int32)), (.ref r)]))
    obtain ⟨_, T30, L30, X30, ⟨rfl, eh30, rfl⟩, st30⟩ := own_callS X29 hx hZ hown (argsL := [(.ref r), (.int (3 : Int32)), (.int x0), (.int x1), (.int x2), (.int x3)]) (rest := []) (own_matches_con l Z a0 hw r [.int x0, .int x1, .int x2] (3 : Int32) x0 x1 x2 x3 T29.heap A1 (by first | rfl | simp) (fun _ => rfl) (fun _ => rfl) (fun _ => rfl) (fun q => absurd q (by simp)) []) rfl (hw _ (List.mem_of_getElem? (i := 32) rfl)) (hw _ (List.mem_of_getElem? (i := 33) rfl)) (hw _ (List.mem_of_getElem? (i := 34) rfl)) (hw _ (List.mem_of_getElem? (i := 35) rfl)) (by decide) (by decide +kernel : parseMethodDescriptor "([IIIIII)Z" = some ⟨[(.array .int), .int, .int, .int, .int, .int], some .boolean⟩) rfl (g := (mkF m 80 #[.val (.int x0), .val (.int x1), .val (.int x2), .val (.int x3), .val (.int x4), .val (.int (3 : Int32)), .val (.ref a24), .val (.ref r), .unset] [(.int x3), (.int x2), (.int x1), (.int x0), (.int (3 : Int32)), (.ref r)])) rfl (by rw [hml]; rfl) rfl 0 (by show 2 * 0 + _ ≤ _; exact Nat.le_of_eq rfl) (hb hby at_80) (by decide) (by decide) (by decide) (by decide)
    rw [List.append_nil] at X30
    refine own_go st30 ?_
    show own_Go p e below _ (T30.setTop (mkF m 83 #[.val (.int x0), .val (.int x1), .val (.int x2), .val (.int x3), .val (.int x4), .val (.int (3 : Int32)), .val (.ref a24), .val (.ref r), .unset] [(.int (1 : Int32))]))
    refine own_go (fun _ => XS.ifYes X30.here hx rfl (pc0 := 83) (pc' := 88) rfl (hb hby at_83) rfl (XT.i0_ne_t (by decide)) (by decide) (by decide)) ?_
    show own_Go p e below _ (T30.setTop (mkF m 88 #[.val (.int x0), .val (.int x1), .val (.int x2), .val (.int x3), .val (.int x4), .val (.int (3 : Int32)), .val (.ref a24), .val (.ref r), .unset] []))
    refine own_go (fun _ => XS.iload X30.here hx rfl (hb hby at_88) rfl) ?_
    show own_Go p e below _ (T30.setTop (mkF m 90 #[.val (.int x0), .val (.int x1), .val (.int x2), .val (.int x3), .val (.int x4), .val (.int (3 : Int32)), .val (.ref a24), .val (.ref r), .unset] [(.int (3 : Int32))]))
    refine own_go (fun _ => XS.ifNo X30.here hx rfl (hb hby at_90) rfl (XT.i0_le_f (by decide))) ?_
    show own_Go p e below _ (T30.setTop (mkF m 93 #[.val (.int x0), .val (.int x1), .val (.int x2), .val (.int x3), .val (.int x4), .val (.int (3 : Int32)), .val (.ref a24), .val (.ref r), .unset] []))
    refine own_go (fun _ => XS.aload X30.here hx rfl (hb hby at_93) rfl rfl) ?_
    show own_Go p e below _ (T30.setTop (mkF m 95 #[.val (.int x0), .val (.int x1), .val (.int x2), .val (.int x3), .val (.int x4), .val (.int (3 : Int32)), .val (.ref a24), .val (.ref r), .unset] [(.ref r)]))
    refine own_go (fun _ => XS.iconst X30.here hx rfl (hb hby at_95)) ?_
    show own_Go p e below _ (T30.setTop (mkF m 96 #[.val (.int x0), .val (.int x1), .val (.int x2), .val (.int x3), .val (.int x4), .val (.int (3 : Int32)), .val (.ref a24), .val (.ref r), .unset] [(.int (0 : Int32)), (.ref r)]))
    refine own_go (fun _ => XS.aload X30.here hx rfl (hb hby at_96) rfl rfl) ?_
    show own_Go p e below _ (T30.setTop (mkF m 98 #[.val (.int x0), .val (.int x1), .val (.int x2), .val (.int x3), .val (.int x4), .val (.int (3 : Int32)), .val (.ref a24), .val (.ref r), .unset] [(.ref r), (.int (0 : Int32)), (.ref r)]))
    refine own_go (fun _ => XS.iconst X30.here hx rfl (hb hby at_98)) ?_
    show own_Go p e below _ (T30.setTop (mkF m 99 #[.val (.int x0), .val (.int x1), .val (.int x2), .val (.int x3), .val (.int x4), .val (.int (3 : Int32)), .val (.ref a24), .val (.ref r), .unset] [(.int (0 : Int32)), (.ref r), (.int (0 : Int32)), (.ref r)]))
    refine own_go (own_ldI X30 hx hZ eh30 A1 (g := (mkF m 99 #[.val (.int x0), .val (.int x1), .val (.int x2), .val (.int x3), .val (.int x4), .val (.int (3 : Int32)), .val (.ref a24), .val (.ref r), .unset] [(.int (0 : Int32)), (.ref r), (.int (0 : Int32)), (.ref r)])) rfl rfl (hb hby at_99) 0 (by decide) (x := (.int x0)) rfl) ?_
    show own_Go p e below _ (T30.setTop (mkF m 100 #[.val (.int x0), .val (.int x1), .val (.int x2), .val (.int x3), .val (.int x4), .val (.int (3 : Int32)), .val (.ref a24), .val (.ref r), .unset] [(.int x0), (.int (0 : Int32)), (.ref r)]))
    refine own_go (fun _ => XS.iconst X30.here hx rfl (hb hby at_100)) ?_
    show own_Go p e below _ (T30.setTop (mkF m 101 #[.val (.int x0), .val (.int x1), .val (.int x2), .val (.int x3), .val (.int x4), .val (.int (3 : Int32)), .val (.ref a24), .val (.ref r), .unset] [(.int (-1 : Int32)), (.int x0), (.int (0 : Int32)), (.ref r)]))
    refine own_go (fun _ => XT.ixor X30.here hx rfl (hb hby at_101) rfl) ?_
    show own_Go p e below _ (T30.setTop (mkF m 102 #[.val (.int x0), .val (.int x1), .val (.int x2), .val (.int x3), .val (.int x4), .val (.int (3 : Int32)), .val (.ref a24), .val (.ref r), .unset] [(.int (x0 ^^^ (-1 : Int32))), (.int (0 : Int32)), (.ref r)]))
    obtain ⟨T31, h31, X31, e31, W31, A31, st31⟩ := own_stI X30 hx hZ eh30 A1 (g := (mkF m 102 #[.val (.int x0), .val (.int x1), .val (.int x2), .val (.int x3), .val (.int x4), .val (.int (3 : Int32)), .val (.ref a24), .val (.ref r), .unset] [(.int (x0 ^^^ (-1 : Int32))), (.int (0 : Int32)), (.ref r)])) rfl rfl (hb hby at_102) 0 (by decide) (by simp)
    have N31 := Fr.snoc X31 N29 gr
    refine own_go st31 ?_
    show own_Go p e below _ (T31.setTop (mkF m 103 #[.val (.int x0), .val (.int x1), .val (.int x2), .val (.int x3), .val (.int x4), .val (.int (3 : Int32)), .val (.ref a24), .val (.ref r), .unset] []))
    have I3 : own_Ids Z h31 a24 b ((((List.replicate 16 (.int 0)).set 0 (.int x0)).set 1 (.int x1)).set 2 (.int x2)) ((((0 : Int32) + 1) + 1) + 1) := ⟨I2.1.wr W31, I2.2.1.other W31 (Or.inl ne2), I2.2.2.1.other W31 (Or.inl ne2), I2.2.2.2.1.other W31 ne1, I2.2.2.2.2.1.wr W31, I2.2.2.2.2.2⟩
    have rl : r < h31.size := A31.lt
    refine own_go (fun _ => XS.aload X31.here hx rfl (hb hby at_103) rfl rfl) ?_
    show own_Go p e below _ (T31.setTop (mkF m 105 #[.val (.int x0), .val (.int x1), .val (.int x2), .val (.int x3), .val (.int x4), .val (.int (3 : Int32)), .val (.ref a24), .val (.ref r), .unset] [(.ref a24)]))
    obtain ⟨ez, _⟩ := id I3
    have g2 : h0.size ≤ h31.size := Nat.le_trans gb (Nat.le_of_lt I3.2.2.2.1.lt)
    obtain ⟨r2, hr2⟩ : ∃ z, z = h31.size := ⟨_, rfl⟩
    obtain ⟨_, T32, L32, X32, ⟨rfl, Nc32, Kc32, Ac32, Cc32⟩, st32⟩ := own_callV X31 hx hZ hown (argsL := []) (rest := []) (own_toArray_con l Z a0 hw a24 b ((((List.replicate 16 (.int 0)).set 0 (.int x0)).set 1 (.int x1)).set 2 (.int x2)) ((((0 : Int32) + 1) + 1) + 1) 3 h0.size h31 I3 (by decide) (by simp) (by decide) g2 []) e31 ez (hw _ (List.mem_of_getElem? (i := 13) rfl)) (hw _ (List.mem_of_getElem? (i := 14) rfl)) (hw _ (List.mem_of_getElem? (i := 16) rfl)) (hw _ (List.mem_of_getElem? (i := 15) rfl)) (hw _ (List.mem_of_getElem? (i := 3) rfl)) (hw _ (List.mem_of_getElem? (i := 17) rfl)) (notFace_of_selects (args := #[]) (mvT hZ (hw _ (List.mem_of_getElem? (i := 16) rfl)))) (by decide) (by decide +kernel : parseMethodDescriptor "()[I" = some ⟨[], (some (.array .int))⟩) rfl (g := (mkF m 105 #[.val (.int x0), .val (.int x1), .val (.int x2), .val (.int x3), .val (.int x4), .val (.int (3 : Int32)), .val (.ref a24), .val (.ref r), .unset] [(.ref a24)])) rfl (by rw [hml]; rfl) rfl 0 (by show 2 * 0 + _ ≤ _; exact Nat.le_of_eq rfl) (hb hby at_105) (by decide) (by decide) (by decide) (by decide)
    have N32 := Fr.app N31 Nc32
    have o_E_32 := ez.keep Kc32
    rw [← hr2] at Ac32 Cc32 st32 rl
    refine own_go st32 ?_
    show own_Go p e below _ (T32.setTop (mkF m 108 #[.val (.int x0), .val (.int x1), .val (.int x2), .val (.int x3), .val (.int x4), .val (.int (3 : Int32)), .val (.ref a24), .val (.ref r), .unset] [(.ref r2)]))
    have A2 : own_AV Z T32.heap r2 .int [.int x0, .int x1, .int x2] := Ac32
    refine own_go (fun _ => XS.astore X32.here hx rfl (hb hby at_108) rfl rfl (l' := #[.val (.int x0), .val (.int x1), .val (.int x2), .val (.int x3), .val (.int x4), .val (.int (3 : Int32)), .val (.ref a24), .val (.ref r), .val (.ref r2)]) rfl) ?_
    show own_Go p e below _ (T32.setTop (mkF m 110 #[.val (.int x0), .val (.int x1), .val (.int x2), .val (.int x3), .val (.int x4), .val (.int (3 : Int32)), .val (.ref a24), .val (.ref r), .val (.ref r2)] []))
    refine own_go (fun _ => XS.aload X32.here hx rfl (hb hby at_110) rfl rfl) ?_
    show own_Go p e below _ (T32.setTop (mkF m 112 #[.val (.int x0), .val (.int x1), .val (.int x2), .val (.int x3), .val (.int x4), .val (.int (3 : Int32)), .val (.ref a24), .val (.ref r), .val (.ref r2)] [(.ref r2)]))
    refine own_go (fun _ => XS.aload X32.here hx rfl (hb hby at_112) rfl rfl) ?_
    show own_Go p e below _ (T32.setTop (mkF m 114 #[.val (.int x0), .val (.int x1), .val (.int x2), .val (.int x3), .val (.int x4), .val (.int (3 : Int32)), .val (.ref a24), .val (.ref r), .val (.ref r2)] [(.ref r), (.ref r2)]))
    refine own_go (fun _ => XT.acmpYes X32.here hx rfl (pc0 := 114) (pc' := 119) rfl (hb hby at_114) rfl rfl rfl (XT.aa_ne_t (fun z => absurd rl (by cases z; exact Nat.lt_irrefl _))) (by decide) (by decide)) ?_
    show own_Go p e below _ (T32.setTop (mkF m 119 #[.val (.int x0), .val (.int x1), .val (.int x2), .val (.int x3), .val (.int x4), .val (.int (3 : Int32)), .val (.ref a24), .val (.ref r), .val (.ref r2)] []))
    refine own_go (fun _ => XS.aload X32.here hx rfl (hb hby at_119) rfl rfl) ?_
    show own_Go p e below _ (T32.setTop (mkF m 121 #[.val (.int x0), .val (.int x1), .val (.int x2), .val (.int x3), .val (.int x4), .val (.int (3 : Int32)), .val (.ref a24), .val (.ref r), .val (.ref r2)] [(.ref r2)]))
    refine own_go (fun _ => XS.iload X32.here hx rfl (hb hby at_121) rfl) ?_
    show own_Go p e below _ (T32.setTop (mkF m 123 #[.val (.int x0), .val (.int x1), .val (.int x2), .val (.int x3), .val (.int x4), .val (.int (3 : Int32)), .val (.ref a24), .val (.ref r), .val (.ref r2)] [(.int (3 : Int32)), (.ref r2)]))
    refine own_go (fun _ => XS.iloadN X32.here hx rfl (hb hby at_123) rfl) ?_
    show own_Go p e below _ (T32.setTop (mkF m 124 #[.val (.int x0), .val (.int x1), .val (.int x2), .val (.int x3), .val (.int x4), .val (.int (3 : Int32)), .val (.ref a24), .val (.ref r), .val (.ref r2)] [(.int x0), (.int (3 : Int32)), (.ref r2)]))
    refine own_go (fun _ => XS.iloadN X32.here hx rfl (hb hby at_124) rfl) ?_
    show own_Go p e below _ (T32.setTop (mkF m 125 #[.val (.int x0), .val (.int x1), .val (.int x2), .val (.int x3), .val (.int x4), .val (.int (3 : Int32)), .val (.ref a24), .val (.ref r), .val (.ref r2)] [(.int x1), (.int x0), (.int (3 : Int32)), (.ref r2)]))
    refine own_go (fun _ => XS.iloadN X32.here hx rfl (hb hby at_125) rfl) ?_
    show own_Go p e below _ (T32.setTop (mkF m 126 #[.val (.int x0), .val (.int x1), .val (.int x2), .val (.int x3), .val (.int x4), .val (.int (3 : Int32)), .val (.ref a24), .val (.ref r), .val (.ref r2)] [(.int x2), (.int x1), (.int x0), (.int (3 : Int32)), (.ref r2)]))
    refine own_go (fun _ => XS.iloadN X32.here hx rfl (hb hby at_126) rfl) ?_
    show own_Go p e below _ (T32.setTop (mkF m 127 #[.val (.int x0), .val (.int x1), .val (.int x2), .val (.int x3), .val (.int x4), .val (.int (3 : Int32)), .val (.ref a24), .val (.ref r), .val (.ref r2)] [(.int x3), (.int x2), (.int x1), (.int x0), (.int (3 : Int32)), (.ref r2)]))
    obtain ⟨_, T33, L33, X33, ⟨rfl, eh33, rfl⟩, st33⟩ := own_callS X32 hx hZ hown (argsL := [(.ref r2), (.int (3 : Int32)), (.int x0), (.int x1), (.int x2), (.int x3)]) (rest := []) (own_matches_con l Z a0 hw r2 [.int x0, .int x1, .int x2] (3 : Int32) x0 x1 x2 x3 T32.heap A2 (by first | rfl | simp) (fun _ => rfl) (fun _ => rfl) (fun _ => rfl) (fun q => absurd q (by simp)) []) rfl (hw _ (List.mem_of_getElem? (i := 32) rfl)) (hw _ (List.mem_of_getElem? (i := 33) rfl)) (hw _ (List.mem_of_getElem? (i := 34) rfl)) (hw _ (List.mem_of_getElem? (i := 35) rfl)) (by decide) (by decide +kernel : parseMethodDescriptor "([IIIIII)Z" = some ⟨[(.array .int), .int, .int, .int, .int, .int], some .boolean⟩) rfl (g := (mkF m 127 #[.val (.int x0), .val (.int x1), .val (.int x2), .val (.int x3), .val (.int x4), .val (.int (3 : Int32)), .val (.ref a24), .val (.ref r), .val (.ref r2)] [(.int x3), (.int x2), (.int x1), (.int x0), (.int (3 : Int32)), (.ref r2)])) rfl (by rw [hml]; rfl) rfl 0 (by show 2 * 0 + _ ≤ _; exact Nat.le_of_eq rfl) (hb hby at_127) (by decide) (by decide) (by decide) (by decide)
    rw [List.append_nil] at X33
    refine own_go st33 ?_
    show own_Go p e below _ (T33.setTop (mkF m 130 #[.val (.int x0), .val (.int x1), .val (.int x2), .val (.int x3), .val (.int x4), .val (.int (3 : Int32)), .val (.ref a24), .val (.ref r), .val (.ref r2)] [(.int (1 : Int32))]))
    exact own_iret X33 hx hlk hret (Or.inr (Or.inl rfl)) rfl (hb hby at_130) (by decide) (by decide) ⟨rfl, N32⟩
  · skip
    rw [hn]
    show own_Go p e below _ (T.setTop (mkF m 7 #[.val (.int x0), .val (.int x1), .val (.int x2), .val (.int x3), .val (.int x4), .unset, .unset, .unset, .unset] [(.int (4 : Int32))]))
    refine own_go (fun _ => XS.istore X.here hx rfl (hb hby at_7) rfl (l' := #[.val (.int x0), .val (.int x1), .val (.int x2), .val (.int x3), .val (.int x4), .val (.int (4 : Int32)), .unset, .unset, .unset]) rfl) ?_
    show own_Go p e below _ (T.setTop (mkF m 9 #[.val (.int x0), .val (.int x1), .val (.int x2), .val (.int x3), .val (.int x4), .val (.int (4 : Int32)), .unset, .unset, .unset] []))
    obtain ⟨T34, h34, X34, e34, E34, C34, D34, -, st34⟩ := newO X hx hZ hown (hw _ (List.mem_of_getElem? (i := 1) rfl)) (hw _ (List.mem_of_getElem? (i := 2) rfl)) (hw _ (List.mem_of_getElem? (i := 3) rfl)) eT (g := (mkF m 9 #[.val (.int x0), .val (.int x1), .val (.int x2), .val (.int x3), .val (.int x4), .val (.int (4 : Int32)), .unset, .unset, .unset] [])) rfl (hb hby at_9) (by decide) (by decide)
    obtain ⟨a34, q34⟩ : ∃ z, z = h0.size := ⟨_, rfl⟩
    rw [← q34] at C34 D34 st34
    have o_ids_34 := D34 (Or.inl (hw _ (List.mem_of_getElem? (i := 12) rfl))) (ty := (.array .int)) (by decide)
    have o_size_34 := D34 (Or.inl (hw _ (List.mem_of_getElem? (i := 19) rfl))) (ty := .int) (by decide)
    refine own_go st34 ?_
    show own_Go p e below _ (T34.setTop (mkF m 12 #[.val (.int x0), .val (.int x1), .val (.int x2), .val (.int x3), .val (.int x4), .val (.int (4 : Int32)), .unset, .unset, .unset] [(.ref a34)]))
    refine own_go (fun _ => XS.dup X34.here hx rfl (hb hby at_12) rfl rfl) ?_
    show own_Go p e below _ (T34.setTop (mkF m 13 #[.val (.int x0), .val (.int x1), .val (.int x2), .val (.int x3), .val (.int x4), .val (.int (4 : Int32)), .unset, .unset, .unset] [(.ref a34), (.ref a34)]))
    have ga : h0.size ≤ a34 := Nat.le_of_eq q34.symm
    have gn : h0.size ≤ h34.size := E34.1
    obtain ⟨b, hbv⟩ : ∃ z, z = h34.size := ⟨_, rfl⟩
    obtain ⟨_, T35, L35, X35, ⟨rfl, Nc35, Kc35, I35⟩, st35⟩ := own_callI X34 hx hZ hown rfl (argsL := []) (rest := [(.ref a34)]) (own_init_con l Z a0 hw a34 h0.size h34 C34 o_ids_34 o_size_34 ga gn []) e34 (hw _ (List.mem_of_getElem? (i := 4) rfl)) (hw _ (List.mem_of_getElem? (i := 5) rfl)) (hw _ (List.mem_of_getElem? (i := 3) rfl)) (hw _ (List.mem_of_getElem? (i := 6) rfl)) (by decide) (by decide +kernel : parseMethodDescriptor "()V" = some ⟨[], none⟩) rfl (g := (mkF m 13 #[.val (.int x0), .val (.int x1), .val (.int x2), .val (.int x3), .val (.int x4), .val (.int (4 : Int32)), .unset, .unset, .unset] [(.ref a34), (.ref a34)])) rfl (by rw [hml]; rfl) rfl 1 (by show 2 * 0 + _ ≤ _; exact Nat.le_of_eq rfl) (hb hby at_13) (by decide) (by decide) (by decide) (by decide)
    have N35 := Fr.app N0 Nc35
    have o_E_35 := C34.keep Kc35
    refine own_go st35 ?_
    show own_Go p e below _ (T35.setTop (mkF m 16 #[.val (.int x0), .val (.int x1), .val (.int x2), .val (.int x3), .val (.int x4), .val (.int (4 : Int32)), .unset, .unset, .unset] [(.ref a34)]))
    rw [← hbv] at I35
    have gb : h0.size ≤ b := by rw [hbv]; exact gn
    refine own_go (fun _ => XS.astore X35.here hx rfl (hb hby at_16) rfl rfl (l' := #[.val (.int x0), .val (.int x1), .val (.int x2), .val (.int x3), .val (.int x4), .val (.int (4 : Int32)), .val (.ref a34), .unset, .unset]) rfl) ?_
    show own_Go p e below _ (T35.setTop (mkF m 18 #[.val (.int x0), .val (.int x1), .val (.int x2), .val (.int x3), .val (.int x4), .val (.int (4 : Int32)), .val (.ref a34), .unset, .unset] []))
    refine own_go (fun _ => XS.iload X35.here hx rfl (hb hby at_18) rfl) ?_
    show own_Go p e below _ (T35.setTop (mkF m 20 #[.val (.int x0), .val (.int x1), .val (.int x2), .val (.int x3), .val (.int x4), .val (.int (4 : Int32)), .val (.ref a34), .unset, .unset] [(.int (4 : Int32))]))
    refine own_go (fun _ => XS.ifNo X35.here hx rfl (hb hby at_20) rfl (XT.i0_le_f (by decide))) ?_
    show own_Go p e below _ (T35.setTop (mkF m 23 #[.val (.int x0), .val (.int x1), .val (.int x2), .val (.int x3), .val (.int x4), .val (.int (4 : Int32)), .val (.ref a34), .unset, .unset] []))
    refine own_go (fun _ => XS.aload X35.here hx rfl (hb hby at_23) rfl rfl) ?_
    show own_Go p e below _ (T35.setTop (mkF m 25 #[.val (.int x0), .val (.int x1), .val (.int x2), .val (.int x3), .val (.int x4), .val (.int (4 : Int32)), .val (.ref a34), .unset, .unset] [(.ref a34)]))
    refine own_go (fun _ => XS.iloadN X35.here hx rfl (hb hby at_25) rfl) ?_
    show own_Go p e below _ (T35.setTop (mkF m 26 #[.val (.int x0), .val (.int x1), .val (.int x2), .val (.int x3), .val (.int x4), .val (.int (4 : Int32)), .val (.ref a34), .unset, .unset] [(.int x0), (.ref a34)]))
    obtain ⟨ex0, _⟩ := id I35
    obtain ⟨_, T36, L36, X36, ⟨rfl, Nc36, Kc36, I36⟩, st36⟩ := own_callV X35 hx hZ hown (argsL := [(.int x0)]) (rest := []) (own_add_con l Z a0 hw a34 b (List.replicate 16 (.int 0)) (0 : Int32) x0 0 h0.size T35.heap I35 (by decide) (by simp) ga gb []) rfl ex0 (hw _ (List.mem_of_getElem? (i := 36) rfl)) (hw _ (List.mem_of_getElem? (i := 37) rfl)) (hw _ (List.mem_of_getElem? (i := 39) rfl)) (hw _ (List.mem_of_getElem? (i := 38) rfl)) (hw _ (List.mem_of_getElem? (i := 3) rfl)) (hw _ (List.mem_of_getElem? (i := 40) rfl)) (notFace_of_selects (args := #[]) (mvT hZ (hw _ (List.mem_of_getElem? (i := 39) rfl)))) (by decide) (by decide +kernel : parseMethodDescriptor "(I)V" = some ⟨[.int], none⟩) rfl (g := (mkF m 26 #[.val (.int x0), .val (.int x1), .val (.int x2), .val (.int x3), .val (.int x4), .val (.int (4 : Int32)), .val (.ref a34), .unset, .unset] [(.int x0), (.ref a34)])) rfl (by rw [hml]; rfl) rfl 0 (by show 2 * 0 + _ ≤ _; exact Nat.le_of_eq rfl) (hb hby at_26) (by decide) (by decide) (by decide) (by decide)
    have N36 := Fr.app N35 Nc36
    have o_E_36 := ex0.keep Kc36
    refine own_go st36 ?_
    show own_Go p e below _ (T36.setTop (mkF m 29 #[.val (.int x0), .val (.int x1), .val (.int x2), .val (.int x3), .val (.int x4), .val (.int (4 : Int32)), .val (.ref a34), .unset, .unset] []))
    refine own_go (fun _ => XS.iload X36.here hx rfl (hb hby at_29) rfl) ?_
    show own_Go p e below _ (T36.setTop (mkF m 31 #[.val (.int x0), .val (.int x1), .val (.int x2), .val (.int x3), .val (.int x4), .val (.int (4 : Int32)), .val (.ref a34), .unset, .unset] [(.int (4 : Int32))]))
    refine own_go (fun _ => XS.iconst X36.here hx rfl (hb hby at_31)) ?_
    show own_Go p e below _ (T36.setTop (mkF m 32 #[.val (.int x0), .val (.int x1), .val (.int x2), .val (.int x3), .val (.int x4), .val (.int (4 : Int32)), .val (.ref a34), .unset, .unset] [(.int (1 : Int32)), (.int (4 : Int32))]))
    refine own_go (fun _ => XS.icmpNo X36.here hx rfl (hb hby at_32) rfl (XT.ii_le_f (by decide))) ?_
    show own_Go p e below _ (T36.setTop (mkF m 35 #[.val (.int x0), .val (.int x1), .val (.int x2), .val (.int x3), .val (.int x4), .val (.int (4 : Int32)), .val (.ref a34), .unset, .unset] []))
    refine own_go (fun _ => XS.aload X36.here hx rfl (hb hby at_35) rfl rfl) ?_
    show own_Go p e below _ (T36.setTop (mkF m 37 #[.val (.int x0), .val (.int x1), .val (.int x2), .val (.int x3), .val (.int x4), .val (.int (4 : Int32)), .val (.ref a34), .unset, .unset] [(.ref a34)]))
    refine own_go (fun _ => XS.iloadN X36.here hx rfl (hb hby at_37) rfl) ?_
    show own_Go p e below _ (T36.setTop (mkF m 38 #[.val (.int x0), .val (.int x1), .val (.int x2), .val (.int x3), .val (.int x4), .val (.int (4 : Int32)), .val (.ref a34), .unset, .unset] [(.int x1), (.ref a34)]))
    obtain ⟨ex1, _⟩ := id I36
    obtain ⟨_, T37, L37, X37, ⟨rfl, Nc37, Kc37, I37⟩, st37⟩ := own_callV X36 hx hZ hown (argsL := [(.int x1)]) (rest := []) (own_add_con l Z a0 hw a34 b ((List.replicate 16 (.int 0)).set 0 (.int x0)) ((0 : Int32) + 1) x1 1 h0.size T36.heap I36 (by decide) (by simp) ga gb []) rfl ex1 (hw _ (List.mem_of_getElem? (i := 36) rfl)) (hw _ (List.mem_of_getElem? (i := 37) rfl)) (hw _ (List.mem_of_getElem? (i := 39) rfl)) (hw _ (List.mem_of_getElem? (i := 38) rfl)) (hw _ (List.mem_of_getElem? (i := 3) rfl)) (hw _ (List.mem_of_getElem? (i := 40) rfl)) (notFace_of_selects (args := #[]) (mvT hZ (hw _ (List.mem_of_getElem? (i := 39) rfl)))) (by decide) (by decide +kernel : parseMethodDescriptor "(I)V" = some ⟨[.int], none⟩) rfl (g := (mkF m 38 #[.val (.int x0), .val (.int x1), .val (.int x2), .val (.int x3), .val (.int x4), .val (.int (4 : Int32)), .val (.ref a34), .unset, .unset] [(.int x1), (.ref a34)])) rfl (by rw [hml]; rfl) rfl 0 (by show 2 * 0 + _ ≤ _; exact Nat.le_of_eq rfl) (hb hby at_38) (by decide) (by decide) (by decide) (by decide)
    have N37 := Fr.app N36 Nc37
    have o_E_37 := ex1.keep Kc37
    refine own_go st37 ?_
    show own_Go p e below _ (T37.setTop (mkF m 41 #[.val (.int x0), .val (.int x1), .val (.int x2), .val (.int x3), .val (.int x4), .val (.int (4 : Int32)), .val (.ref a34), .unset, .unset] []))
    refine own_go (fun _ => XS.iload X37.here hx rfl (hb hby at_41) rfl) ?_
    show own_Go p e below _ (T37.setTop (mkF m 43 #[.val (.int x0), .val (.int x1), .val (.int x2), .val (.int x3), .val (.int x4), .val (.int (4 : Int32)), .val (.ref a34), .unset, .unset] [(.int (4 : Int32))]))
    refine own_go (fun _ => XS.iconst X37.here hx rfl (hb hby at_43)) ?_
    show own_Go p e below _ (T37.setTop (mkF m 44 #[.val (.int x0), .val (.int x1), .val (.int x2), .val (.int x3), .val (.int x4), .val (.int (4 : Int32)), .val (.ref a34), .unset, .unset] [(.int (2 : Int32)), (.int (4 : Int32))]))
    refine own_go (fun _ => XS.icmpNo X37.here hx rfl (hb hby at_44) rfl (XT.ii_le_f (by decide))) ?_
    show own_Go p e below _ (T37.setTop (mkF m 47 #[.val (.int x0), .val (.int x1), .val (.int x2), .val (.int x3), .val (.int x4), .val (.int (4 : Int32)), .val (.ref a34), .unset, .unset] []))
    refine own_go (fun _ => XS.aload X37.here hx rfl (hb hby at_47) rfl rfl) ?_
    show own_Go p e below _ (T37.setTop (mkF m 49 #[.val (.int x0), .val (.int x1), .val (.int x2), .val (.int x3), .val (.int x4), .val (.int (4 : Int32)), .val (.ref a34), .unset, .unset] [(.ref a34)]))
    refine own_go (fun _ => XS.iloadN X37.here hx rfl (hb hby at_49) rfl) ?_
    show own_Go p e below _ (T37.setTop (mkF m 50 #[.val (.int x0), .val (.int x1), .val (.int x2), .val (.int x3), .val (.int x4), .val (.int (4 : Int32)), .val (.ref a34), .unset, .unset] [(.int x2), (.ref a34)]))
    obtain ⟨ex2, _⟩ := id I37
    obtain ⟨_, T38, L38, X38, ⟨rfl, Nc38, Kc38, I38⟩, st38⟩ := own_callV X37 hx hZ hown (argsL := [(.int x2)]) (rest := []) (own_add_con l Z a0 hw a34 b (((List.replicate 16 (.int 0)).set 0 (.int x0)).set 1 (.int x1)) (((0 : Int32) + 1) + 1) x2 2 h0.size T37.heap I37 (by decide) (by simp) ga gb []) rfl ex2 (hw _ (List.mem_of_getElem? (i := 36) rfl)) (hw _ (List.mem_of_getElem? (i := 37) rfl)) (hw _ (List.mem_of_getElem? (i := 39) rfl)) (hw _ (List.mem_of_getElem? (i := 38) rfl)) (hw _ (List.mem_of_getElem? (i := 3) rfl)) (hw _ (List.mem_of_getElem? (i := 40) rfl)) (notFace_of_selects (args := #[]) (mvT hZ (hw _ (List.mem_of_getElem? (i := 39) rfl)))) (by decide) (by decide +kernel : parseMethodDescriptor "(I)V" = some ⟨[.int], none⟩) rfl (g := (mkF m 50 #[.val (.int x0), .val (.int x1), .val (.int x2), .val (.int x3), .val (.int x4), .val (.int (4 : Int32)), .val (.ref a34), .unset, .unset] [(.int x2), (.ref a34)])) rfl (by rw [hml]; rfl) rfl 0 (by show 2 * 0 + _ ≤ _; exact Nat.le_of_eq rfl) (hb hby at_50) (by decide) (by decide) (by decide) (by decide)
    have N38 := Fr.app N37 Nc38
    have o_E_38 := ex2.keep Kc38
    refine own_go st38 ?_
    show own_Go p e below _ (T38.setTop (mkF m 53 #[.val (.int x0), .val (.int x1), .val (.int x2), .val (.int x3), .val (.int x4), .val (.int (4 : Int32)), .val (.ref a34), .unset, .unset] []))
    refine own_go (fun _ => XS.iload X38.here hx rfl (hb hby at_53) rfl) ?_
    show own_Go p e below _ (T38.setTop (mkF m 55 #[.val (.int x0), .val (.int x1), .val (.int x2), .val (.int x3), .val (.int x4), .val (.int (4 : Int32)), .val (.ref a34), .unset, .unset] [(.int (4 : Int32))]))
    refine own_go (fun _ => XS.iconst X38.here hx rfl (hb hby at_55)) ?_
    show own_Go p e below _ (T38.setTop (mkF m 56 #[.val (.int x0), .val (.int x1), .val (.int x2), .val (.int x3), .val (.int x4), .val (.int (4 : Int32)), .val (.ref a34), .unset, .unset] [(.int (3 : Int32)), (.int (4 : Int32))]))
    refine own_go (fun _ => XS.icmpNo X38.here hx rfl (hb hby at_56) rfl (XT.ii_le_f (by decide))) ?_
    show own_Go p e below _ (T38.setTop (mkF m 59 #[.val (.int x0), .val (.int x1), .val (.int x2), .val (.int x3), .val (.int x4), .val (.int (4 : Int32)), .val (.ref a34), .unset, .unset] []))
    refine own_go (fun _ => XS.aload X38.here hx rfl (hb hby at_59) rfl rfl) ?_
    show own_Go p e below _ (T38.setTop (mkF m 61 #[.val (.int x0), .val (.int x1), .val (.int x2), .val (.int x3), .val (.int x4), .val (.int (4 : Int32)), .val (.ref a34), .unset, .unset] [(.ref a34)]))
    refine own_go (fun _ => XS.iloadN X38.here hx rfl (hb hby at_61) rfl) ?_
    show own_Go p e below _ (T38.setTop (mkF m 62 #[.val (.int x0), .val (.int x1), .val (.int x2), .val (.int x3), .val (.int x4), .val (.int (4 : Int32)), .val (.ref a34), .unset, .unset] [(.int x3), (.ref a34)]))
    obtain ⟨ex3, _⟩ := id I38
    obtain ⟨_, T39, L39, X39, ⟨rfl, Nc39, Kc39, I39⟩, st39⟩ := own_callV X38 hx hZ hown (argsL := [(.int x3)]) (rest := []) (own_add_con l Z a0 hw a34 b ((((List.replicate 16 (.int 0)).set 0 (.int x0)).set 1 (.int x1)).set 2 (.int x2)) ((((0 : Int32) + 1) + 1) + 1) x3 3 h0.size T38.heap I38 (by decide) (by simp) ga gb []) rfl ex3 (hw _ (List.mem_of_getElem? (i := 36) rfl)) (hw _ (List.mem_of_getElem? (i := 37) rfl)) (hw _ (List.mem_of_getElem? (i := 39) rfl)) (hw _ (List.mem_of_getElem? (i := 38) rfl)) (hw _ (List.mem_of_getElem? (i := 3) rfl)) (hw _ (List.mem_of_getElem? (i := 40) rfl)) (notFace_of_selects (args := #[]) (mvT hZ (hw _ (List.mem_of_getElem? (i := 39) rfl)))) (by decide) (by decide +kernel : parseMethodDescriptor "(I)V" = some ⟨[.int], none⟩) rfl (g := (mkF m 62 #[.val (.int x0), .val (.int x1), .val (.int x2), .val (.int x3), .val (.int x4), .val (.int (4 : Int32)), .val (.ref a34), .unset, .unset] [(.int x3), (.ref a34)])) rfl (by rw [hml]; rfl) rfl 0 (by show 2 * 0 + _ ≤ _; exact Nat.le_of_eq rfl) (hb hby at_62) (by decide) (by decide) (by decide) (by decide)
    have N39 := Fr.app N38 Nc39
    have o_E_39 := ex3.keep Kc39
    refine own_go st39 ?_
    show own_Go p e below _ (T39.setTop (mkF m 65 #[.val (.int x0), .val (.int x1), .val (.int x2), .val (.int x3), .val (.int x4), .val (.int (4 : Int32)), .val (.ref a34), .unset, .unset] []))
    refine own_go (fun _ => XS.aload X39.here hx rfl (hb hby at_65) rfl rfl) ?_
    show own_Go p e below _ (T39.setTop (mkF m 67 #[.val (.int x0), .val (.int x1), .val (.int x2), .val (.int x3), .val (.int x4), .val (.int (4 : Int32)), .val (.ref a34), .unset, .unset] [(.ref a34)]))
    have g1 : h0.size ≤ T39.heap.size := Nat.le_trans gb (Nat.le_of_lt I39.2.2.2.1.lt)
    have ne1 : b ≠ T39.heap.size := Nat.ne_of_lt I39.2.2.2.1.lt
    have ne2 : a34 ≠ T39.heap.size := Nat.ne_of_lt I39.1.lt
    obtain ⟨r, hr⟩ : ∃ z, z = T39.heap.size := ⟨_, rfl⟩
    obtain ⟨ey, _⟩ := id I39
    obtain ⟨_, T40, L40, X40, ⟨rfl, Nc40, Kc40, Ac40, Cc40⟩, st40⟩ := own_callV X39 hx hZ hown (argsL := []) (rest := []) (own_toArray_con l Z a0 hw a34 b (((((List.replicate 16 (.int 0)).set 0 (.int x0)).set 1 (.int x1)).set 2 (.int x2)).set 3 (.int x3)) (((((0 : Int32) + 1) + 1) + 1) + 1) 4 h0.size T39.heap I39 (by decide) (by simp) (by decide) g1 []) rfl ey (hw _ (List.mem_of_getElem? (i := 13) rfl)) (hw _ (List.mem_of_getElem? (i := 14) rfl)) (hw _ (List.mem_of_getElem? (i := 16) rfl)) (hw _ (List.mem_of_getElem? (i := 15) rfl)) (hw _ (List.mem_of_getElem? (i := 3) rfl)) (hw _ (List.mem_of_getElem? (i := 17) rfl)) (notFace_of_selects (args := #[]) (mvT hZ (hw _ (List.mem_of_getElem? (i := 16) rfl)))) (by decide) (by decide +kernel : parseMethodDescriptor "()[I" = some ⟨[], (some (.array .int))⟩) rfl (g := (mkF m 67 #[.val (.int x0), .val (.int x1), .val (.int x2), .val (.int x3), .val (.int x4), .val (.int (4 : Int32)), .val (.ref a34), .unset, .unset] [(.ref a34)])) rfl (by rw [hml]; rfl) rfl 0 (by show 2 * 0 + _ ≤ _; exact Nat.le_of_eq rfl) (hb hby at_67) (by decide) (by decide) (by decide) (by decide)
    have N40 := Fr.app N39 Nc40
    have o_E_40 := ey.keep Kc40
    rw [← hr] at Ac40 Cc40 ne1 ne2 st40
    refine own_go st40 ?_
    show own_Go p e below _ (T40.setTop (mkF m 70 #[.val (.int x0), .val (.int x1), .val (.int x2), .val (.int x3), .val (.int x4), .val (.int (4 : Int32)), .val (.ref a34), .unset, .unset] [(.ref r)]))
    have A1 : own_AV Z T40.heap r .int [.int x0, .int x1, .int x2, .int x3] := Ac40
    have I2 : own_Ids Z T40.heap a34 b (((((List.replicate 16 (.int 0)).set 0 (.int x0)).set 1 (.int x1)).set 2 (.int x2)).set 3 (.int x3)) (((((0 : Int32) + 1) + 1) + 1) + 1) := ⟨I39.1.keep Kc40, I39.2.1.keep Kc40 nin0, I39.2.2.1.keep Kc40 nin0, I39.2.2.2.1.keep Kc40 nin0, I39.2.2.2.2.1.keep Kc40, I39.2.2.2.2.2⟩
    have gr : h0.size ≤ r := by rw [hr]; exact g1
    refine own_go (fun _ => XS.astore X40.here hx rfl (hb hby at_70) rfl rfl (l' := #[.val (.int x0), .val (.int x1), .val (.int x2), .val (.int x3), .val (.int x4), .val (.int (4 : Int32)), .val (.ref a34), .val (.ref r), .unset]) rfl) ?_
    show own_Go p e below _ (T40.setTop (mkF m 72 #[.val (.int x0), .val (.int x1), .val (.int x2), .val (.int x3), .val (.int x4), .val (.int (4 : Int32)), .val (.ref a34), .val (.ref r), .unset] []))
    refine own_go (fun _ => XS.aload X40.here hx rfl (hb hby at_72) rfl rfl) ?_
    show own_Go p e below _ (T40.setTop (mkF m 74 #[.val (.int x0), .val (.int x1), .val (.int x2), .val (.int x3), .val (.int x4), .val (.int (4 : Int32)), .val (.ref a34), .val (.ref r), .unset] [(.ref r)]))
    refine own_go (fun _ => XS.iload X40.here hx rfl (hb hby at_74) rfl) ?_
    show own_Go p e below _ (T40.setTop (mkF m 76 #[.val (.int x0), .val (.int x1), .val (.int x2), .val (.int x3), .val (.int x4), .val (.int (4 : Int32)), .val (.ref a34), .val (.ref r), .unset] [(.int (4 : Int32)), (.ref r)]))
    refine own_go (fun _ => XS.iloadN X40.here hx rfl (hb hby at_76) rfl) ?_
    show own_Go p e below _ (T40.setTop (mkF m 77 #[.val (.int x0), .val (.int x1), .val (.int x2), .val (.int x3), .val (.int x4), .val (.int (4 : Int32)), .val (.ref a34), .val (.ref r), .unset] [(.int x0), (.int (4 : Int32)), (.ref r)]))
    refine own_go (fun _ => XS.iloadN X40.here hx rfl (hb hby at_77) rfl) ?_
    show own_Go p e below _ (T40.setTop (mkF m 78 #[.val (.int x0), .val (.int x1), .val (.int x2), .val (.int x3), .val (.int x4), .val (.int (4 : Int32)), .val (.ref a34), .val (.ref r), .unset] [(.int x1), (.int x0), (.int (4 : Int32)), (.ref r)]))
    refine own_go (fun _ => XS.iloadN X40.here hx rfl (hb hby at_78) rfl) ?_
    show own_Go p e below _ (T40.setTop (mkF m 79 #[.val (.int x0), .val (.int x1), .val (.int x2), .val (.int x3), .val (.int x4), .val (.int (4 : Int32)), .val (.ref a34), .val (.ref r), .unset] [(.int x2), (.int x1), (.int x0), (.int (4 : Int32)), (.ref r)]))
    refine own_go (fun _ => XS.iloadN X40.here hx rfl (hb hby at_79) rfl) ?_
    show own_Go p e below _ (T40.setTop (mkF m 80 #[.val (.int x0), .val (.int x1), .val (.int x2), .val (.int x3), .val (.int x4), .val (.int (4 : Int32)), .val (.ref a34), .val (.ref r), .unset] [(.int x3), (.int x2), (.int x1), (.int x0), (.int (4 : Int32)), (.ref r)]))
    obtain ⟨_, T41, L41, X41, ⟨rfl, eh41, rfl⟩, st41⟩ := own_callS X40 hx hZ hown (argsL := [(.ref r), (.int (4 : Int32)), (.int x0), (.int x1), (.int x2), (.int x3)]) (rest := []) (own_matches_con l Z a0 hw r [.int x0, .int x1, .int x2, .int x3] (4 : Int32) x0 x1 x2 x3 T40.heap A1 (by first | rfl | simp) (fun _ => rfl) (fun _ => rfl) (fun _ => rfl) (fun _ => rfl) []) rfl (hw _ (List.mem_of_getElem? (i := 32) rfl)) (hw _ (List.mem_of_getElem? (i := 33) rfl)) (hw _ (List.mem_of_getElem? (i := 34) rfl)) (hw _ (List.mem_of_getElem? (i := 35) rfl)) (by decide) (by decide +kernel : parseMethodDescriptor "([IIIIII)Z" = some ⟨[(.array .int), .int, .int, .int, .int, .int], some .boolean⟩) rfl (g := (mkF m 80 #[.val (.int x0), .val (.int x1), .val (.int x2), .val (.int x3), .val (.int x4), .val (.int (4 : Int32)), .val (.ref a34), .val (.ref r), .unset] [(.int x3), (.int x2), (.int x1), (.int x0), (.int (4 : Int32)), (.ref r)])) rfl (by rw [hml]; rfl) rfl 0 (by show 2 * 0 + _ ≤ _; exact Nat.le_of_eq rfl) (hb hby at_80) (by decide) (by decide) (by decide) (by decide)
    rw [List.append_nil] at X41
    refine own_go st41 ?_
    show own_Go p e below _ (T41.setTop (mkF m 83 #[.val (.int x0), .val (.int x1), .val (.int x2), .val (.int x3), .val (.int x4), .val (.int (4 : Int32)), .val (.ref a34), .val (.ref r), .unset] [(.int (1 : Int32))]))
    refine own_go (fun _ => XS.ifYes X41.here hx rfl (pc0 := 83) (pc' := 88) rfl (hb hby at_83) rfl (XT.i0_ne_t (by decide)) (by decide) (by decide)) ?_
    show own_Go p e below _ (T41.setTop (mkF m 88 #[.val (.int x0), .val (.int x1), .val (.int x2), .val (.int x3), .val (.int x4), .val (.int (4 : Int32)), .val (.ref a34), .val (.ref r), .unset] []))
    refine own_go (fun _ => XS.iload X41.here hx rfl (hb hby at_88) rfl) ?_
    show own_Go p e below _ (T41.setTop (mkF m 90 #[.val (.int x0), .val (.int x1), .val (.int x2), .val (.int x3), .val (.int x4), .val (.int (4 : Int32)), .val (.ref a34), .val (.ref r), .unset] [(.int (4 : Int32))]))
    refine own_go (fun _ => XS.ifNo X41.here hx rfl (hb hby at_90) rfl (XT.i0_le_f (by decide))) ?_
    show own_Go p e below _ (T41.setTop (mkF m 93 #[.val (.int x0), .val (.int x1), .val (.int x2), .val (.int x3), .val (.int x4), .val (.int (4 : Int32)), .val (.ref a34), .val (.ref r), .unset] []))
    refine own_go (fun _ => XS.aload X41.here hx rfl (hb hby at_93) rfl rfl) ?_
    show own_Go p e below _ (T41.setTop (mkF m 95 #[.val (.int x0), .val (.int x1), .val (.int x2), .val (.int x3), .val (.int x4), .val (.int (4 : Int32)), .val (.ref a34), .val (.ref r), .unset] [(.ref r)]))
    refine own_go (fun _ => XS.iconst X41.here hx rfl (hb hby at_95)) ?_
    show own_Go p e below _ (T41.setTop (mkF m 96 #[.val (.int x0), .val (.int x1), .val (.int x2), .val (.int x3), .val (.int x4), .val (.int (4 : Int32)), .val (.ref a34), .val (.ref r), .unset] [(.int (0 : Int32)), (.ref r)]))
    refine own_go (fun _ => XS.aload X41.here hx rfl (hb hby at_96) rfl rfl) ?_
    show own_Go p e below _ (T41.setTop (mkF m 98 #[.val (.int x0), .val (.int x1), .val (.int x2), .val (.int x3), .val (.int x4), .val (.int (4 : Int32)), .val (.ref a34), .val (.ref r), .unset] [(.ref r), (.int (0 : Int32)), (.ref r)]))
    refine own_go (fun _ => XS.iconst X41.here hx rfl (hb hby at_98)) ?_
    show own_Go p e below _ (T41.setTop (mkF m 99 #[.val (.int x0), .val (.int x1), .val (.int x2), .val (.int x3), .val (.int x4), .val (.int (4 : Int32)), .val (.ref a34), .val (.ref r), .unset] [(.int (0 : Int32)), (.ref r), (.int (0 : Int32)), (.ref r)]))
    refine own_go (own_ldI X41 hx hZ eh41 A1 (g := (mkF m 99 #[.val (.int x0), .val (.int x1), .val (.int x2), .val (.int x3), .val (.int x4), .val (.int (4 : Int32)), .val (.ref a34), .val (.ref r), .unset] [(.int (0 : Int32)), (.ref r), (.int (0 : Int32)), (.ref r)])) rfl rfl (hb hby at_99) 0 (by decide) (x := (.int x0)) rfl) ?_
    show own_Go p e below _ (T41.setTop (mkF m 100 #[.val (.int x0), .val (.int x1), .val (.int x2), .val (.int x3), .val (.int x4), .val (.int (4 : Int32)), .val (.ref a34), .val (.ref r), .unset] [(.int x0), (.int (0 : Int32)), (.ref r)]))
    refine own_go (fun _ => XS.iconst X41.here hx rfl (hb hby at_100)) ?_
    show own_Go p e below _ (T41.setTop (mkF m 101 #[.val (.int x0), .val (.int x1), .val (.int x2), .val (.int x3), .val (.int x4), .val (.int (4 : Int32)), .val (.ref a34), .val (.ref r), .unset] [(.int (-1 : Int32)), (.int x0), (.int (0 : Int32)), (.ref r)]))
    refine own_go (fun _ => XT.ixor X41.here hx rfl (hb hby at_101) rfl) ?_
    show own_Go p e below _ (T41.setTop (mkF m 102 #[.val (.int x0), .val (.int x1), .val (.int x2), .val (.int x3), .val (.int x4), .val (.int (4 : Int32)), .val (.ref a34), .val (.ref r), .unset] [(.int (x0 ^^^ (-1 : Int32))), (.int (0 : Int32)), (.ref r)]))
    obtain ⟨T42, h42, X42, e42, W42, A42, st42⟩ := own_stI X41 hx hZ eh41 A1 (g := (mkF m 102 #[.val (.int x0), .val (.int x1), .val (.int x2), .val (.int x3), .val (.int x4), .val (.int (4 : Int32)), .val (.ref a34), .val (.ref r), .unset] [(.int (x0 ^^^ (-1 : Int32))), (.int (0 : Int32)), (.ref r)])) rfl rfl (hb hby at_102) 0 (by decide) (by simp)
    have N42 := Fr.snoc X42 N40 gr
    refine own_go st42 ?_
    show own_Go p e below _ (T42.setTop (mkF m 103 #[.val (.int x0), .val (.int x1), .val (.int x2), .val (.int x3), .val (.int x4), .val (.int (4 : Int32)), .val (.ref a34), .val (.ref r), .unset] []))
    have I3 : own_Ids Z h42 a34 b (((((List.replicate 16 (.int 0)).set 0 (.int x0)).set 1 (.int x1)).set 2 (.int x2)).set 3 (.int x3)) (((((0 : Int32) + 1) + 1) + 1) + 1) := ⟨I2.1.wr W42, I2.2.1.other W42 (Or.inl ne2), I2.2.2.1.other W42 (Or.inl ne2), I2.2.2.2.1.other W42 ne1, I2.2.2.2.2.1.wr W42, I2.2.2.2.2.2⟩
    have rl : r < h42.size := A42.lt
    refine own_go (fun _ => XS.aload X42.here hx rfl (hb hby at_103) rfl rfl) ?_
    show own_Go p e below _ (T42.setTop (mkF m 105 #[.val (.int x0), .val (.int x1), .val (.int x2), .val (.int x3), .val (.int x4), .val (.int (4 : Int32)), .val (.ref a34), .val (.ref r), .unset] [(.ref a34)]))
    obtain ⟨ez, _⟩ := id I3
    have g2 : h0.size ≤ h42.size := Nat.le_trans gb (Nat.le_of_lt I3.2.2.2.1.lt)
    obtain ⟨r2, hr2⟩ : ∃ z, z = h42.size := ⟨_, rfl⟩
    obtain ⟨_, T43, L43, X43, ⟨rfl, Nc43, Kc43, Ac43, Cc43⟩, st43⟩ := own_callV X42 hx hZ hown (argsL := []) (rest := []) (own_toArray_con l Z a0 hw a34 b (((((List.replicate 16 (.int 0)).set 0 (.int x0)).set 1 (.int x1)).set 2 (.int x2)).set 3 (.int x3)) (((((0 : Int32) + 1) + 1) + 1) + 1) 4 h0.size h42 I3 (by decide) (by simp) (by decide) g2 []) e42 ez (hw _ (List.mem_of_getElem? (i := 13) rfl)) (hw _ (List.mem_of_getElem? (i := 14) rfl)) (hw _ (List.mem_of_getElem? (i := 16) rfl)) (hw _ (List.mem_of_getElem? (i := 15) rfl)) (hw _ (List.mem_of_getElem? (i := 3) rfl)) (hw _ (List.mem_of_getElem? (i := 17) rfl)) (notFace_of_selects (args := #[]) (mvT hZ (hw _ (List.mem_of_getElem? (i := 16) rfl)))) (by decide) (by decide +kernel : parseMethodDescriptor "()[I" = some ⟨[], (some (.array .int))⟩) rfl (g := (mkF m 105 #[.val (.int x0), .val (.int x1), .val (.int x2), .val (.int x3), .val (.int x4), .val (.int (4 : Int32)), .val (.ref a34), .val (.ref r), .unset] [(.ref a34)])) rfl (by rw [hml]; rfl) rfl 0 (by show 2 * 0 + _ ≤ _; exact Nat.le_of_eq rfl) (hb hby at_105) (by decide) (by decide) (by decide) (by decide)
    have N43 := Fr.app N42 Nc43
    have o_E_43 := ez.keep Kc43
    rw [← hr2] at Ac43 Cc43 st43 rl
    refine own_go st43 ?_
    show own_Go p e below _ (T43.setTop (mkF m 108 #[.val (.int x0), .val (.int x1), .val (.int x2), .val (.int x3), .val (.int x4), .val (.int (4 : Int32)), .val (.ref a34), .val (.ref r), .unset] [(.ref r2)]))
    have A2 : own_AV Z T43.heap r2 .int [.int x0, .int x1, .int x2, .int x3] := Ac43
    refine own_go (fun _ => XS.astore X43.here hx rfl (hb hby at_108) rfl rfl (l' := #[.val (.int x0), .val (.int x1), .val (.int x2), .val (.int x3), .val (.int x4), .val (.int (4 : Int32)), .val (.ref a34), .val (.ref r), .val (.ref r2)]) rfl) ?_
    show own_Go p e below _ (T43.setTop (mkF m 110 #[.val (.int x0), .val (.int x1), .val (.int x2), .val (.int x3), .val (.int x4), .val (.int (4 : Int32)), .val (.ref a34), .val (.ref r), .val (.ref r2)] []))
    refine own_go (fun _ => XS.aload X43.here hx rfl (hb hby at_110) rfl rfl) ?_
    show own_Go p e below _ (T43.setTop (mkF m 112 #[.val (.int x0), .val (.int x1), .val (.int x2), .val (.int x3), .val (.int x4), .val (.int (4 : Int32)), .val (.ref a34), .val (.ref r), .val (.ref r2)] [(.ref r2)]))
    refine own_go (fun _ => XS.aload X43.here hx rfl (hb hby at_112) rfl rfl) ?_
    show own_Go p e below _ (T43.setTop (mkF m 114 #[.val (.int x0), .val (.int x1), .val (.int x2), .val (.int x3), .val (.int x4), .val (.int (4 : Int32)), .val (.ref a34), .val (.ref r), .val (.ref r2)] [(.ref r), (.ref r2)]))
    refine own_go (fun _ => XT.acmpYes X43.here hx rfl (pc0 := 114) (pc' := 119) rfl (hb hby at_114) rfl rfl rfl (XT.aa_ne_t (fun z => absurd rl (by cases z; exact Nat.lt_irrefl _))) (by decide) (by decide)) ?_
    show own_Go p e below _ (T43.setTop (mkF m 119 #[.val (.int x0), .val (.int x1), .val (.int x2), .val (.int x3), .val (.int x4), .val (.int (4 : Int32)), .val (.ref a34), .val (.ref r), .val (.ref r2)] []))
    refine own_go (fun _ => XS.aload X43.here hx rfl (hb hby at_119) rfl rfl) ?_
    show own_Go p e below _ (T43.setTop (mkF m 121 #[.val (.int x0), .val (.int x1), .val (.int x2), .val (.int x3), .val (.int x4), .val (.int (4 : Int32)), .val (.ref a34), .val (.ref r), .val (.ref r2)] [(.ref r2)]))
    refine own_go (fun _ => XS.iload X43.here hx rfl (hb hby at_121) rfl) ?_
    show own_Go p e below _ (T43.setTop (mkF m 123 #[.val (.int x0), .val (.int x1), .val (.int x2), .val (.int x3), .val (.int x4), .val (.int (4 : Int32)), .val (.ref a34), .val (.ref r), .val (.ref r2)] [(.int (4 : Int32)), (.ref r2)]))
    refine own_go (fun _ => XS.iloadN X43.here hx rfl (hb hby at_123) rfl) ?_
    show own_Go p e below _ (T43.setTop (mkF m 124 #[.val (.int x0), .val (.int x1), .val (.int x2), .val (.int x3), .val (.int x4), .val (.int (4 : Int32)), .val (.ref a34), .val (.ref r), .val (.ref r2)] [(.int x0), (.int (4 : Int32)), (.ref r2)]))
    refine own_go (fun _ => XS.iloadN X43.here hx rfl (hb hby at_124) rfl) ?_
    show own_Go p e below _ (T43.setTop (mkF m 125 #[.val (.int x0), .val (.int x1), .val (.int x2), .val (.int x3), .val (.int x4), .val (.int (4 : Int32)), .val (.ref a34), .val (.ref r), .val (.ref r2)] [(.int x1), (.int x0), (.int (4 : Int32)), (.ref r2)]))
    refine own_go (fun _ => XS.iloadN X43.here hx rfl (hb hby at_125) rfl) ?_
    show own_Go p e below _ (T43.setTop (mkF m 126 #[.val (.int x0), .val (.int x1), .val (.int x2), .val (.int x3), .val (.int x4), .val (.int (4 : Int32)), .val (.ref a34), .val (.ref r), .val (.ref r2)] [(.int x2), (.int x1), (.int x0), (.int (4 : Int32)), (.ref r2)]))
    refine own_go (fun _ => XS.iloadN X43.here hx rfl (hb hby at_126) rfl) ?_
    show own_Go p e below _ (T43.setTop (mkF m 127 #[.val (.int x0), .val (.int x1), .val (.int x2), .val (.int x3), .val (.int x4), .val (.int (4 : Int32)), .val (.ref a34), .val (.ref r), .val (.ref r2)] [(.int x3), (.int x2), (.int x1), (.int x0), (.int (4 : Int32)), (.ref r2)]))
    obtain ⟨_, T44, L44, X44, ⟨rfl, eh44, rfl⟩, st44⟩ := own_callS X43 hx hZ hown (argsL := [(.ref r2), (.int (4 : Int32)), (.int x0), (.int x1), (.int x2), (.int x3)]) (rest := []) (own_matches_con l Z a0 hw r2 [.int x0, .int x1, .int x2, .int x3] (4 : Int32) x0 x1 x2 x3 T43.heap A2 (by first | rfl | simp) (fun _ => rfl) (fun _ => rfl) (fun _ => rfl) (fun _ => rfl) []) rfl (hw _ (List.mem_of_getElem? (i := 32) rfl)) (hw _ (List.mem_of_getElem? (i := 33) rfl)) (hw _ (List.mem_of_getElem? (i := 34) rfl)) (hw _ (List.mem_of_getElem? (i := 35) rfl)) (by decide) (by decide +kernel : parseMethodDescriptor "([IIIIII)Z" = some ⟨[(.array .int), .int, .int, .int, .int, .int], some .boolean⟩) rfl (g := (mkF m 127 #[.val (.int x0), .val (.int x1), .val (.int x2), .val (.int x3), .val (.int x4), .val (.int (4 : Int32)), .val (.ref a34), .val (.ref r), .val (.ref r2)] [(.int x3), (.int x2), (.int x1), (.int x0), (.int (4 : Int32)), (.ref r2)])) rfl (by rw [hml]; rfl) rfl 0 (by show 2 * 0 + _ ≤ _; exact Nat.le_of_eq rfl) (hb hby at_127) (by decide) (by decide) (by decide) (by decide)
    rw [List.append_nil] at X44
    refine own_go st44 ?_
    show own_Go p e below _ (T44.setTop (mkF m 130 #[.val (.int x0), .val (.int x1), .val (.int x2), .val (.int x3), .val (.int x4), .val (.int (4 : Int32)), .val (.ref a34), .val (.ref r), .val (.ref r2)] [(.int (1 : Int32))]))
    exact own_iret X44 hx hlk hret (Or.inr (Or.inl rfl)) rfl (hb hby at_130) (by decide) (by decide) ⟨rfl, N43⟩
set_option maxRecDepth 65536 in
set_option maxHeartbeats 40000000 in
theorem comes_1 {Post : Tables → Env → Array Value → State → Outcome → State → Prop} (hpost : ∀ tb e args s v u, (limb_1_1.after args s (.returned v) u = true ∧ limb_1_2.after args s (.returned v) u = true ∧ True) → FrameEnd s (.returned v) u (Jvm.fieldLocs frame_1_writes args s ++ Jvm.arrayLocs frame_1_arrays args s ++ Jvm.staticLocs frame_1_statics s) 16 128 → Post tb e args s (.returned v) u) :
    ArmFor flags0 classFile x code maxLocals ret World_1 tables_1 room_1 Calls_1 rest_1 Pre_1 Post := by
  intro l hfl _ _ p e ha hc hk s m args below hf hA hF happ hP
  obtain ⟨hcalls, hrest, hpre⟩ := hP
  obtain ⟨-, -, -, hnamed, -, -, -, hat⟩ := (Spec.applies_iff hf).mp happ
  obtain ⟨hg, hn⟩ := and_e (Cond.before_iff.mp (show (Jvm.Cond.and given_1 narrow_1).before args s = true from hpre))
  obtain ⟨gc, gr0⟩ := and_e hg
  obtain ⟨g0, gr1⟩ := and_e gr0
  obtain ⟨g1, gr2⟩ := and_e gr1
  obtain ⟨g2, gr3⟩ := and_e gr2
  obtain ⟨g3, gr4⟩ := and_e gr3
  obtain ⟨w0, w1, w2, w3, w4, rfl⟩ : ∃ w0 w1 w2 w3 w4 : Value, args = #[w0, w1, w2, w3, w4] := by
    have hs : args.size = 5 := by simpa [Cond.value, given_1] using gc
    obtain ⟨L⟩ := args
    match L, hs with
    | [w0, w1, w2, w3, w4], _ => exact ⟨w0, w1, w2, w3, w4, rfl⟩
  have hw := fun d (hd : d ∈ tables_1) => atoms_spec (ws := Jvm.Cond.code x code maxLocals ret :: tables_1) hat d (List.mem_cons_of_mem _ hd)
  have hfit : Fit s := fun {y c} hc i hi => by
    obtain ⟨ha, rfl⟩ := Array.getElem?_eq_some_iff.mp hc
    have q := List.all_eq_true.mp ((Array.all_eq_true_iff_forall_mem.mp hF) _ (Array.getElem_mem ha)) i (List.mem_range.mpr hi)
    simpa [Array.getElem?_eq_getElem hi] using q
  obtain ⟨i0, ei0⟩ := is_v g0
  obtain rfl : w0 = (.int i0) := Option.some.inj ei0
  obtain ⟨i1, ei1⟩ := is_v g1
  obtain rfl : w1 = (.int i1) := Option.some.inj ei1
  obtain ⟨i2, ei2⟩ := is_v g2
  obtain rfl : w2 = (.int i2) := Option.some.inj ei2
  obtain ⟨i3, ei3⟩ := is_v g3
  obtain rfl : w3 = (.int i3) := Option.some.inj ei3
  obtain ⟨i4, ei4⟩ := is_v gr4
  obtain rfl : w4 = (.int i4) := Option.some.inj ei4
  obtain ⟨n, o, h1, h2, h3, _, L, rfl, ⟨rfl, N⟩, hq⟩ := own_main_con l s _ hw i0 i1 i2 i3 i4  s.heap tables_1 p e ha hc hk s m _ below hf ((Spec.applies_iff_loose hf).mp happ).1 ⟨rfl, State.Warmed39.refl s, rfl⟩ trivial
  refine ⟨n, _, h1, h2, h3, hpost _ _ _ _ _ _ ⟨Cond.after_iff.mpr rfl, Cond.after_iff.mpr (eq_i res_at (Term.int_eval (1)) rfl), trivial⟩ ⟨hq.1, hq.2.1, (hq.2.2.sift fun y hy => Or.inr (N y hy)).mono (by decide) (by decide)⟩⟩
theorem main_1_1 : Claimed_1_1 := comes_1 fun _ _ _ _ _ _ h hF => ⟨h.1, hF⟩
theorem main_1_2 : Claimed_1_2 := comes_1 fun _ _ _ _ _ _ h hF => ⟨h.2.1, hF⟩
end Jvm.Pilot.@@N@@
namespace Jvm.Pilot.@@N@@
open Jvm Jvm.ClassFile Sem Op Lib Jvm.Free Jvm.Stand Jvm.Pilot.@@N@@.Jvm.D
/-! MADE BY PROGRAM (witnessworld.py) out of the Statement's table words and the real class files: 12 classes; the members and pool entries that the words name. The judged class is class 1, her method 1. -/
namespace start1
open Jvm.ClassFile
def u (s : String) : CpInfo := .utf8 (stringToUtf16 s)
/-- a pool by its gaps: so many unusable entries, then the entry; so many at the end -/
def gap : Nat → List CpInfo → List CpInfo
  | 0, r => r
  | n + 1, r => .unusable :: gap n r
def poolList (es : List (Nat × CpInfo)) (last : Nat) : List CpInfo := es.foldr (fun e r => gap e.1 (e.2 :: r)) (gap last [])
def pool (es : List (Nat × CpInfo)) (last : Nat) : Array CpInfo := ⟨poolList es last⟩
def fileOf (pool : Array CpInfo) (this : Nat) (attrs : Array Attribute := #[]) (ms : Array MethodInfo := #[]) (fl : Nat := 33) (sup : Nat := 0) (ifs : Array Nat := #[]) (fds : Array FieldInfo := #[]) : ClassFile where
  minorVersion := 0
  majorVersion := 65
  constantPool := pool
  accessFlags := fl
  thisClass := this
  superClass := sup
  interfaces := ifs
  fields := fds
  methods := ms
  attributes := attrs
def plain (name : String) (sup : Option ClassId) : Class where
  name := name
  kind := .ordinary
  loader := none
  accessFlags := 33
  super := sup
  interfaces := #[]
  cf := none
  fields := #[]
  methods := #[]
  instanceTypes := #[]
  staticTypes := #[]
  resolved := #[]
  callSites := []
  init := .initialized
  statics := none
  mirror := none

def pool0 : Array CpInfo := pool [(5, u "<init>"), (0, u "()V"), (1, .class_ 10), (1, u "java/lang/Object")] 113

def k0c0 : Code := { maxStack := 0, maxLocals := 1, code := object_method_1_code, exceptionTable := #[], attributes := #[] }
def k0m0 : Method := { name := "<init>", desc := "()V", sig := { parameters := [], returnType := none }, accessFlags := 1, code := some k0c0 }
/-- java/lang/Object -/
def k0 : Class := { plain "java/lang/Object" none with
  accessFlags := 33
  interfaces := #[]
  cf := some (fileOf pool0 8 #[] #[{ accessFlags := 1, nameIndex := 5, descriptorIndex := 6, attributes := #[] }] 33 0 #[] #[])
  fields := #[]
  methods := #[k0m0]
  instanceTypes := #[]
  staticTypes := #[]
  resolved := Array.replicate 124 none
  statics := none }

def pool1 : Array CpInfo := pool [(2, .class_ 4), (0, .nameAndType 5 6), (0, u "java/lang/Object"), (0, u "<init>"), (0, u "()V"), (0, .integer 2147483647), (0, .class_ 9), (0, u "com/example/secure_model_views/securemodelviews/Ids"), (0, .methodref 8 3), (0, .methodref 8 12), (0, .nameAndType 13 14), (0, u "add"), (0, u "(I)V"), (0, .methodref 8 16), (0, .nameAndType 17 18), (0, u "toArray"), (0, u "()[I"), (0, .methodref 20 21), (0, .class_ 22), (0, .nameAndType 23 24), (0, u "com/example/secure_model_views/securemodelviews/IdsToArrayPinLaw"), (0, u "matches"), (0, u "([IIIIII)Z"), (2, u "law"), (0, u "(IIIII)Z")] 5

def k1m0 : Method := { name := "<init>", desc := "()V", sig := { parameters := [], returnType := none }, accessFlags := 1, code := none }
def k1c1 : Code := { maxStack := 6, maxLocals := 9, code := code, exceptionTable := #[], attributes := #[] }
def k1m1 : Method := { name := "law", desc := "(IIIII)Z", sig := { parameters := [.int, .int, .int, .int, .int], returnType := some .boolean }, accessFlags := 9, code := some k1c1 }
def k1c2 : Code := { maxStack := 2, maxLocals := 6, code := method_3_code, exceptionTable := #[], attributes := #[] }
def k1m2 : Method := { name := "matches", desc := "([IIIIII)Z", sig := { parameters := [(.array .int), .int, .int, .int, .int, .int], returnType := some .boolean }, accessFlags := 10, code := some k1c2 }
/-- com/example/secure_model_views/securemodelviews/IdsToArrayPinLaw -/
def k1 : Class := { plain "com/example/secure_model_views/securemodelviews/IdsToArrayPinLaw" (some 0) with
  accessFlags := 49
  interfaces := #[]
  cf := some (fileOf pool1 20 #[] #[{ accessFlags := 1, nameIndex := 5, descriptorIndex := 6, attributes := #[] }, { accessFlags := 9, nameIndex := 27, descriptorIndex := 28, attributes := #[] }, { accessFlags := 10, nameIndex := 23, descriptorIndex := 24, attributes := #[] }] 49 2 #[] #[])
  fields := #[]
  methods := #[k1m0, k1m1, k1m2]
  instanceTypes := #[]
  staticTypes := #[]
  resolved := Array.replicate 34 none
  statics := none }

def pool2 : Array CpInfo := pool [(1, .methodref 2 3), (0, .class_ 4), (0, .nameAndType 5 6), (0, u "java/lang/Object"), (0, u "<init>"), (0, u "()V"), (0, .fieldref 8 9), (0, .class_ 10), (0, .nameAndType 11 12), (0, u "com/example/secure_model_views/securemodelviews/Ids"), (0, u "ids"), (0, u "[I"), (0, .fieldref 8 14), (0, .nameAndType 15 16), (0, u "size"), (0, u "I"), (0, .methodref 18 19), (0, .class_ 20), (0, .nameAndType 21 22), (0, u "java/util/Arrays"), (0, u "copyOf"), (0, u "([II)[I"), (2, u "add"), (0, u "(I)V"), (4, u "toArray"), (0, u "()[I")] 2

def k2c0 : Code := { maxStack := 2, maxLocals := 1, code := prog_3_method_1_code, exceptionTable := #[], attributes := #[] }
def k2m0 : Method := { name := "<init>", desc := "()V", sig := { parameters := [], returnType := none }, accessFlags := 0, code := some k2c0 }
def k2c1 : Code := { maxStack := 4, maxLocals := 2, code := prog_3_method_2_code, exceptionTable := #[], attributes := #[] }
def k2m1 : Method := { name := "add", desc := "(I)V", sig := { parameters := [.int], returnType := none }, accessFlags := 0, code := some k2c1 }
def k2c2 : Code := { maxStack := 2, maxLocals := 1, code := prog_3_method_5_code, exceptionTable := #[], attributes := #[] }
def k2m2 : Method := { name := "toArray", desc := "()[I", sig := { parameters := [], returnType := some (.array .int) }, accessFlags := 0, code := some k2c2 }
/-- com/example/secure_model_views/securemodelviews/Ids -/
def k2 : Class := { plain "com/example/secure_model_views/securemodelviews/Ids" (some 0) with
  accessFlags := 48
  interfaces := #[]
  cf := some (fileOf pool2 8 #[] #[{ accessFlags := 0, nameIndex := 5, descriptorIndex := 6, attributes := #[] }, { accessFlags := 0, nameIndex := 25, descriptorIndex := 26, attributes := #[] }, { accessFlags := 0, nameIndex := 31, descriptorIndex := 32, attributes := #[] }] 48 2 #[] #[{ accessFlags := 2, nameIndex := 11, descriptorIndex := 12, attributes := #[] }, { accessFlags := 2, nameIndex := 15, descriptorIndex := 16, attributes := #[] }])
  fields := #[{ name := "ids", type := (.array .int), accessFlags := 2, slot := 0, constantValue := 0 }, { name := "size", type := .int, accessFlags := 2, slot := 1, constantValue := 0 }]
  methods := #[k2m0, k2m1, k2m2]
  instanceTypes := #[(.array .int), .int]
  staticTypes := #[]
  resolved := Array.replicate 35 none
  statics := none }

def pool3 : Array CpInfo := pool [(2, .class_ 4), (1, u "java/lang/Object"), (0, u "<init>"), (0, u "()V"), (7, .class_ 16), (1, u "java/util/Arrays"), (57, .class_ 76), (1, u "java/util/Arrays$NaturalOrder"), (36, .class_ 115), (1, u "java/util/Arrays$LegacyMergeSort"), (1, u "Z"), (32, .methodref 151 152), (0, .class_ 153), (0, .nameAndType 154 155), (0, u "java/lang/System"), (0, u "arraycopy"), (0, u "(Ljava/lang/Object;ILjava/lang/Object;II)V"), (146, u "copyOf"), (1, .methodref 305 306), (0, .class_ 307), (0, .nameAndType 308 309), (0, u "java/lang/Math"), (0, u "min"), (0, u "(II)I"), (65, .class_ 376), (0, u "java/util/Arrays$ArrayList"), (68, u "$assertionsDisabled"), (269, u "MIN_ARRAY_SORT_GRAN"), (0, u "I"), (2, u "INSERTIONSORT_THRESHOLD"), (151, u "([II)[I"), (103, .class_ 976), (0, u "java/util/Arrays$ArrayItr")] 52

def k3m0 : Method := { name := "<init>", desc := "()V", sig := { parameters := [], returnType := none }, accessFlags := 2, code := none }
def k3c1 : Code := { maxStack := 6, maxLocals := 3, code := jdk_65_method_123_code, exceptionTable := #[], attributes := #[] }
def k3m1 : Method := { name := "copyOf", desc := "([II)[I", sig := { parameters := [(.array .int), .int], returnType := some (.array .int) }, accessFlags := 9, code := some k3c1 }
/-- java/util/Arrays -/
def k3 : Class := { plain "java/util/Arrays" (some 0) with
  accessFlags := 49
  interfaces := #[]
  cf := some (fileOf pool3 14 #[.nestMembers #[975, 375, 113, 74]] #[{ accessFlags := 2, nameIndex := 5, descriptorIndex := 6, attributes := #[] }, { accessFlags := 9, nameIndex := 302, descriptorIndex := 871, attributes := #[] }] 49 2 #[] #[{ accessFlags := 26, nameIndex := 715, descriptorIndex := 716, attributes := #[] }, { accessFlags := 26, nameIndex := 719, descriptorIndex := 716, attributes := #[] }, { accessFlags := 4120, nameIndex := 445, descriptorIndex := 117, attributes := #[] }])
  fields := #[{ name := "MIN_ARRAY_SORT_GRAN", type := .int, accessFlags := 26, slot := 0, constantValue := 0 }, { name := "INSERTIONSORT_THRESHOLD", type := .int, accessFlags := 26, slot := 1, constantValue := 0 }, { name := "$assertionsDisabled", type := .boolean, accessFlags := 4120, slot := 2, constantValue := 0 }]
  methods := #[k3m0, k3m1]
  instanceTypes := #[]
  staticTypes := #[.int, .int, .boolean]
  resolved := Array.replicate 1029 none
  statics := none }

def pool4 : Array CpInfo := pool [(1, .class_ 2), (0, u "java/lang/Math"), (1, .class_ 6), (1, u "java/lang/Object"), (0, u "<init>"), (0, u "()V"), (89, .class_ 100), (1, u "java/lang/Math$RandomNumberGeneratorHolder"), (71, u "negativeZeroFloatBits"), (0, u "J"), (2, u "negativeZeroDoubleBits"), (24, u "min"), (43, u "$assertionsDisabled"), (0, u "Z"), (88, u "(II)I"), (2, u "twoToTheDoubleScaleDown"), (0, u "D"), (4, u "twoToTheDoubleScaleUp"), (9, u "E"), (3, u "PI"), (2, u "TAU"), (2, u "DEGREES_TO_RADIANS"), (0, u "RADIANS_TO_DEGREES")] 94

def k4m0 : Method := { name := "<init>", desc := "()V", sig := { parameters := [], returnType := none }, accessFlags := 2, code := none }
def k4c1 : Code := { maxStack := 2, maxLocals := 2, code := jdk_29_method_69_code, exceptionTable := #[], attributes := #[] }
def k4m1 : Method := { name := "min", desc := "(II)I", sig := { parameters := [.int, .int], returnType := some .int }, accessFlags := 9, code := some k4c1 }
/-- java/lang/Math -/
def k4 : Class := { plain "java/lang/Math" (some 0) with
  accessFlags := 49
  interfaces := #[]
  cf := some (fileOf pool4 1 #[.nestMembers #[98]] #[{ accessFlags := 2, nameIndex := 7, descriptorIndex := 8, attributes := #[] }, { accessFlags := 9, nameIndex := 201, descriptorIndex := 335, attributes := #[] }] 49 4 #[] #[{ accessFlags := 25, nameIndex := 354, descriptorIndex := 339, attributes := #[] }, { accessFlags := 25, nameIndex := 358, descriptorIndex := 339, attributes := #[] }, { accessFlags := 25, nameIndex := 361, descriptorIndex := 339, attributes := #[] }, { accessFlags := 26, nameIndex := 364, descriptorIndex := 339, attributes := #[] }, { accessFlags := 26, nameIndex := 365, descriptorIndex := 339, attributes := #[] }, { accessFlags := 26, nameIndex := 172, descriptorIndex := 173, attributes := #[] }, { accessFlags := 26, nameIndex := 176, descriptorIndex := 173, attributes := #[] }, { accessFlags := 8, nameIndex := 344, descriptorIndex := 339, attributes := #[] }, { accessFlags := 8, nameIndex := 338, descriptorIndex := 339, attributes := #[] }, { accessFlags := 4120, nameIndex := 245, descriptorIndex := 246, attributes := #[] }])
  fields := #[{ name := "E", type := .double, accessFlags := 25, slot := 0, constantValue := 0 }, { name := "PI", type := .double, accessFlags := 25, slot := 1, constantValue := 0 }, { name := "TAU", type := .double, accessFlags := 25, slot := 2, constantValue := 0 }, { name := "DEGREES_TO_RADIANS", type := .double, accessFlags := 26, slot := 3, constantValue := 0 }, { name := "RADIANS_TO_DEGREES", type := .double, accessFlags := 26, slot := 4, constantValue := 0 }, { name := "negativeZeroFloatBits", type := .long, accessFlags := 26, slot := 5, constantValue := 0 }, { name := "negativeZeroDoubleBits", type := .long, accessFlags := 26, slot := 6, constantValue := 0 }, { name := "twoToTheDoubleScaleUp", type := .double, accessFlags := 8, slot := 7, constantValue := 0 }, { name := "twoToTheDoubleScaleDown", type := .double, accessFlags := 8, slot := 8, constantValue := 0 }, { name := "$assertionsDisabled", type := .boolean, accessFlags := 4120, slot := 9, constantValue := 0 }]
  methods := #[k4m0, k4m1]
  instanceTypes := #[]
  staticTypes := #[.double, .double, .double, .double, .double, .long, .long, .double, .double, .boolean]
  resolved := Array.replicate 460 none
  statics := none }

def pool5 : Array CpInfo := pool [(2, .class_ 4), (1, u "java/lang/Object"), (0, u "<init>"), (0, u "()V"), (1, .class_ 10), (1, u "java/lang/System"), (0, u "allowSecurityManager"), (0, u "I"), (16, u "cons"), (0, u "Ljava/io/Console;"), (77, .class_ 110), (1, u "java/lang/System$CallersHolder"), (43, u "initialErrStream"), (0, u "Ljava/io/PrintStream;"), (19, u "security"), (0, u "Ljava/lang/SecurityManager;"), (31, .class_ 209), (0, u "java/lang/System$1"), (7, u "props"), (0, u "Ljava/util/Properties;"), (2, u "lineSeparator"), (0, u "Ljava/lang/String;"), (96, .class_ 321), (1, u "java/lang/System$LoggerFinder"), (5, .class_ 328), (0, u "java/lang/System$Logger"), (67, u "err"), (2, u "out"), (91, u "notSupportedJnuEncoding"), (15, u "in"), (17, u "initialIn"), (0, u "Ljava/io/InputStream;"), (35, u "bootLayer"), (0, u "Ljava/lang/ModuleLayer;"), (99, .class_ 664), (0, u "java/lang/System$2"), (9, u "NEVER"), (2, u "MAYBE"), (49, u "arraycopy"), (0, u "(Ljava/lang/Object;ILjava/lang/Object;II)V"), (72, .class_ 802), (0, u "java/lang/System$Logger$Level")] 31

def k5m0 : Method := { name := "<init>", desc := "()V", sig := { parameters := [], returnType := none }, accessFlags := 2, code := none }
def k5m1 : Method := { name := "arraycopy", desc := "(Ljava/lang/Object;ILjava/lang/Object;II)V", sig := { parameters := [(.object "java/lang/Object"), .int, (.object "java/lang/Object"), .int, .int], returnType := none }, accessFlags := 265, code := none }
/-- java/lang/System -/
def k5 : Class := { plain "java/lang/System" (some 0) with
  accessFlags := 49
  interfaces := #[]
  cf := some (fileOf pool5 8 #[.nestMembers #[319, 327, 801, 108, 663, 208]] #[{ accessFlags := 2, nameIndex := 5, descriptorIndex := 6, attributes := #[] }, { accessFlags := 265, nameIndex := 727, descriptorIndex := 728, attributes := #[] }] 49 2 #[] #[{ accessFlags := 25, nameIndex := 507, descriptorIndex := 526, attributes := #[] }, { accessFlags := 25, nameIndex := 399, descriptorIndex := 155, attributes := #[] }, { accessFlags := 25, nameIndex := 396, descriptorIndex := 155, attributes := #[] }, { accessFlags := 10, nameIndex := 525, descriptorIndex := 526, attributes := #[] }, { accessFlags := 26, nameIndex := 674, descriptorIndex := 12, attributes := #[] }, { accessFlags := 26, nameIndex := 677, descriptorIndex := 12, attributes := #[] }, { accessFlags := 10, nameIndex := 11, descriptorIndex := 12, attributes := #[] }, { accessFlags := 74, nameIndex := 175, descriptorIndex := 176, attributes := #[] }, { accessFlags := 10, nameIndex := 491, descriptorIndex := 222, attributes := #[] }, { accessFlags := 74, nameIndex := 29, descriptorIndex := 30, attributes := #[] }, { accessFlags := 74, nameIndex := 154, descriptorIndex := 155, attributes := #[] }, { accessFlags := 10, nameIndex := 217, descriptorIndex := 218, attributes := #[] }, { accessFlags := 10, nameIndex := 221, descriptorIndex := 222, attributes := #[] }, { accessFlags := 8, nameIndex := 562, descriptorIndex := 563, attributes := #[] }])
  fields := #[{ name := "in", type := (.object "java/io/InputStream"), accessFlags := 25, slot := 0, constantValue := 0 }, { name := "out", type := (.object "java/io/PrintStream"), accessFlags := 25, slot := 1, constantValue := 0 }, { name := "err", type := (.object "java/io/PrintStream"), accessFlags := 25, slot := 2, constantValue := 0 }, { name := "initialIn", type := (.object "java/io/InputStream"), accessFlags := 10, slot := 3, constantValue := 0 }, { name := "NEVER", type := .int, accessFlags := 26, slot := 4, constantValue := 0 }, { name := "MAYBE", type := .int, accessFlags := 26, slot := 5, constantValue := 0 }, { name := "allowSecurityManager", type := .int, accessFlags := 10, slot := 6, constantValue := 0 }, { name := "security", type := (.object "java/lang/SecurityManager"), accessFlags := 74, slot := 7, constantValue := 0 }, { name := "notSupportedJnuEncoding", type := (.object "java/lang/String"), accessFlags := 10, slot := 8, constantValue := 0 }, { name := "cons", type := (.object "java/io/Console"), accessFlags := 74, slot := 9, constantValue := 0 }, { name := "initialErrStream", type := (.object "java/io/PrintStream"), accessFlags := 74, slot := 10, constantValue := 0 }, { name := "props", type := (.object "java/util/Properties"), accessFlags := 10, slot := 11, constantValue := 0 }, { name := "lineSeparator", type := (.object "java/lang/String"), accessFlags := 10, slot := 12, constantValue := 0 }, { name := "bootLayer", type := (.object "java/lang/ModuleLayer"), accessFlags := 8, slot := 13, constantValue := 0 }]
  methods := #[k5m0, k5m1]
  instanceTypes := #[]
  staticTypes := #[(.object "java/io/InputStream"), (.object "java/io/PrintStream"), (.object "java/io/PrintStream"), (.object "java/io/InputStream"), .int, .int, .int, (.object "java/lang/SecurityManager"), (.object "java/lang/String"), (.object "java/io/Console"), (.object "java/io/PrintStream"), (.object "java/util/Properties"), (.object "java/lang/String"), (.object "java/lang/ModuleLayer")]
  resolved := Array.replicate 834 none
  statics := none }

def pool6 : Array CpInfo := pool [(1, u "java/lang/Cloneable"), (0, .class_ 1), (0, u "java/lang/Object"), (0, .class_ 3)] 3

/-- java/lang/Cloneable -/
def k6 : Class := { plain "java/lang/Cloneable" (some 0) with
  accessFlags := 1537
  interfaces := #[]
  cf := some (fileOf pool6 2 #[] #[] 1537 4 #[] #[])
  fields := #[]
  methods := #[]
  instanceTypes := #[]
  staticTypes := #[]
  resolved := Array.replicate 8 none
  statics := none }

def pool7 : Array CpInfo := pool [(1, u "java/io/Serializable"), (0, .class_ 1), (0, u "java/lang/Object"), (0, .class_ 3)] 3

/-- java/io/Serializable -/
def k7 : Class := { plain "java/io/Serializable" (some 0) with
  accessFlags := 1537
  interfaces := #[]
  cf := some (fileOf pool7 2 #[] #[] 1537 4 #[] #[])
  fields := #[]
  methods := #[]
  instanceTypes := #[]
  staticTypes := #[]
  resolved := Array.replicate 8 none
  statics := none }

/-- the primitive byte -/
def k8 : Class := { plain "byte" none with kind := .primitive 'B', accessFlags := 0x411 }
/-- [B -/
def k9 : Class := { plain "[B" (some 0) with kind := .array 8 .byte, interfaces := #[6, 7], accessFlags := 1041 }

/-- the primitive int -/
def k10 : Class := { plain "int" none with kind := .primitive 'I', accessFlags := 0x411 }
/-- [I -/
def k11 : Class := { plain "[I" (some 0) with kind := .array 10 .int, interfaces := #[6, 7], accessFlags := 1041 }

def heap : Heap := #[]
def classes : Array Class := #[k0, k1, k2, k3, k4, k5, k6, k7, k8, k9, k10, k11]
def interned : List (Array UInt16 × Addr) := []
def slotsUsed : Nat := 0
def theMethod : MethodId := ⟨1, 1⟩
def args0 : Array Value := #[.int 5, .int 7, .int 3, .int 2, .int 3]
def aboutOver (below : List Frame) : State where
  vm := { classes := classes, interned := interned.toArray }
  heap := heap
  slotsUsed := slotsUsed
  threads := #[{ frames := .invoking theMethod args0 :: below }]
def below0 : List Frame := [.native { method := ⟨0, 0⟩, args := #[] }]
def about1 : State := aboutOver below0
def p0 : Program := .bare "" "" ""
def e0 : Env := launch0.env 0 0 0
theorem w_frames : about1.frames = Frame.invoking theMethod args0 :: below0 := rfl
set_option maxRecDepth 65536 in
theorem w_args : argsFit about1.vm theMethod args0 = true := by decide +kernel
set_option maxRecDepth 65536 in
theorem w_heap : heapFits about1 = true := by decide +kernel
set_option maxRecDepth 65536 in
theorem w_runnable : about1.curStatus? = some .runnable := by decide +kernel
set_option maxRecDepth 65536 in
theorem w_alone : about1.alone = true := by decide +kernel
set_option maxRecDepth 65536 in
theorem w_named : about1.methodNamed? x = some theMethod := by decide +kernel
set_option maxRecDepth 65536 in
theorem w_hears : about1.hears theMethod below0 = true := by decide +kernel
set_option maxRecDepth 65536 in
theorem w_ripe : about1.ripe theMethod args0 below0 = true := by decide +kernel
theorem w_running : about1.status = .running := rfl
set_option maxRecDepth 65536 in
theorem w_room : about1.hasRoom e0.platform room_1 = true :=
  launch0.hasRoom_least _ room_1 (by decide +kernel) (by decide +kernel) (by decide +kernel) (by decide +kernel) (by decide +kernel) (by decide +kernel)
theorem allAtoms_all (ts : List Jvm.Cond) (a : Array Jvm.Value) (st : Jvm.State) : (allAtoms ts).before a st = ts.all (fun c => c.before a st) := by
  induction ts with
  | nil => rfl
  | cons c t ih =>
    show (Jvm.Cond.and c (allAtoms t)).before a st = _
    rw [Jvm.Cond.before_and, ih, List.all_cons]
def words1 : List Jvm.Cond := Jvm.Cond.code x code maxLocals ret :: tables_1
/-- a 'code' word, met by the world's own term for the bytes: nothing is compared byte by byte -/
theorem code_word {y : MethodName} {bytes : ByteArray} {mx : Nat} {rt : Option FieldType} {a : Array Value} {s : State} {m : MethodId} {meth : Method} {c : Code} (h1 : s.methodNamed? y = some m) (h2 : s.vm.method? m = some meth) (h3 : meth.code = some c) (h4 : c.code = bytes)
    (h5 : (c.maxLocals == mx && c.exceptionTable.isEmpty && decide (c.maxStack ≤ mostOperands) && decide (meth.sig.returnType = rt) && !meth.locks && decide (parseMethodDescriptor y.desc = some meth.sig)) = true) : (Jvm.Cond.code y bytes mx rt).before a s = true := by
  simp only [Bool.and_eq_true, beq_iff_eq, Bool.not_eq_true', decide_eq_true_eq] at h5
  obtain ⟨⟨⟨⟨⟨g1, g2⟩, g3⟩, g4⟩, g5⟩, g6⟩ := h5
  simp [Cond.before, Cond.holds, Cond.value, h1, h2, h3, h4, g1, g2, g3, g4, g5, g6]
def isCode : Jvm.Cond → Bool
  | .code _ _ _ _ => true
  | _ => false
theorem all_split {L : List Jvm.Cond} {P : Jvm.Cond → Bool} (h1 : L.all (fun c => isCode c || P c) = true) (h2 : ∀ c ∈ L.filter isCode, P c = true) : L.all P = true := by
  refine List.all_eq_true.mpr fun c hc => ?_
  have h := List.all_eq_true.mp h1 c hc
  rcases Bool.eq_false_or_eq_true (isCode c) with hi | hi
  · exact h2 c (List.mem_filter.mpr ⟨hc, hi⟩)
  · simpa [hi] using h
set_option maxRecDepth 65536 in
theorem w_c0 : (Jvm.Cond.code x code maxLocals ret).before args0 about1 = true := code_word (m := ⟨1, 1⟩) (meth := k1m1) (c := k1c1) (by decide +kernel) rfl rfl rfl (by decide +kernel)
set_option maxRecDepth 65536 in
theorem w_c1 : (Jvm.Cond.code ({ cls := "com/example/secure_model_views/securemodelviews/Ids", name := "<init>", desc := "()V" } : Jvm.MethodName) prog_3_method_1_code (1 : Nat) (Option.none : Option Jvm.ClassFile.FieldType)).before args0 about1 = true := code_word (m := ⟨2, 0⟩) (meth := k2m0) (c := k2c0) (by decide +kernel) rfl rfl rfl (by decide +kernel)
set_option maxRecDepth 65536 in
theorem w_c2 : (Jvm.Cond.code ({ cls := "java/lang/Object", name := "<init>", desc := "()V" } : Jvm.MethodName) object_method_1_code (1 : Nat) (Option.none : Option Jvm.ClassFile.FieldType)).before args0 about1 = true := code_word (m := ⟨0, 0⟩) (meth := k0m0) (c := k0c0) (by decide +kernel) rfl rfl rfl (by decide +kernel)
set_option maxRecDepth 65536 in
theorem w_c3 : (Jvm.Cond.code ({ cls := "com/example/secure_model_views/securemodelviews/Ids", name := "toArray", desc := "()[I" } : Jvm.MethodName) prog_3_method_5_code (1 : Nat) (Option.some (Jvm.ClassFile.FieldType.array Jvm.ClassFile.FieldType.int))).before args0 about1 = true := code_word (m := ⟨2, 2⟩) (meth := k2m2) (c := k2c2) (by decide +kernel) rfl rfl rfl (by decide +kernel)
set_option maxRecDepth 65536 in
theorem w_c4 : (Jvm.Cond.code ({ cls := "java/util/Arrays", name := "copyOf", desc := "([II)[I" } : Jvm.MethodName) jdk_65_method_123_code (3 : Nat) (Option.some (Jvm.ClassFile.FieldType.array Jvm.ClassFile.FieldType.int))).before args0 about1 = true := code_word (m := ⟨3, 1⟩) (meth := k3m1) (c := k3c1) (by decide +kernel) rfl rfl rfl (by decide +kernel)
set_option maxRecDepth 65536 in
theorem w_c5 : (Jvm.Cond.code ({ cls := "java/lang/Math", name := "min", desc := "(II)I" } : Jvm.MethodName) jdk_29_method_69_code (2 : Nat) (Option.some Jvm.ClassFile.FieldType.int)).before args0 about1 = true := code_word (m := ⟨4, 1⟩) (meth := k4m1) (c := k4c1) (by decide +kernel) rfl rfl rfl (by decide +kernel)
set_option maxRecDepth 65536 in
theorem w_c6 : (Jvm.Cond.code ({ cls := "com/example/secure_model_views/securemodelviews/IdsToArrayPinLaw", name := "matches", desc := "([IIIIII)Z" } : Jvm.MethodName) method_3_code (6 : Nat) (Option.some Jvm.ClassFile.FieldType.boolean)).before args0 about1 = true := code_word (m := ⟨1, 2⟩) (meth := k1m2) (c := k1c2) (by decide +kernel) rfl rfl rfl (by decide +kernel)
set_option maxRecDepth 65536 in
theorem w_c7 : (Jvm.Cond.code ({ cls := "com/example/secure_model_views/securemodelviews/Ids", name := "add", desc := "(I)V" } : Jvm.MethodName) prog_3_method_2_code (2 : Nat) (Option.none : Option Jvm.ClassFile.FieldType)).before args0 about1 = true := code_word (m := ⟨2, 1⟩) (meth := k2m1) (c := k2c1) (by decide +kernel) rfl rfl rfl (by decide +kernel)
def codes1 : List Jvm.Cond := [Jvm.Cond.code x code maxLocals ret, Jvm.Cond.code ({ cls := "com/example/secure_model_views/securemodelviews/Ids", name := "<init>", desc := "()V" } : Jvm.MethodName) prog_3_method_1_code (1 : Nat) (Option.none : Option Jvm.ClassFile.FieldType), Jvm.Cond.code ({ cls := "java/lang/Object", name := "<init>", desc := "()V" } : Jvm.MethodName) object_method_1_code (1 : Nat) (Option.none : Option Jvm.ClassFile.FieldType), Jvm.Cond.code ({ cls := "com/example/secure_model_views/securemodelviews/Ids", name := "toArray", desc := "()[I" } : Jvm.MethodName) prog_3_method_5_code (1 : Nat) (Option.some (Jvm.ClassFile.FieldType.array Jvm.ClassFile.FieldType.int)), Jvm.Cond.code ({ cls := "java/util/Arrays", name := "copyOf", desc := "([II)[I" } : Jvm.MethodName) jdk_65_method_123_code (3 : Nat) (Option.some (Jvm.ClassFile.FieldType.array Jvm.ClassFile.FieldType.int)), Jvm.Cond.code ({ cls := "java/lang/Math", name := "min", desc := "(II)I" } : Jvm.MethodName) jdk_29_method_69_code (2 : Nat) (Option.some Jvm.ClassFile.FieldType.int), Jvm.Cond.code ({ cls := "com/example/secure_model_views/securemodelviews/IdsToArrayPinLaw", name := "matches", desc := "([IIIIII)Z" } : Jvm.MethodName) method_3_code (6 : Nat) (Option.some Jvm.ClassFile.FieldType.boolean), Jvm.Cond.code ({ cls := "com/example/secure_model_views/securemodelviews/Ids", name := "add", desc := "(I)V" } : Jvm.MethodName) prog_3_method_2_code (2 : Nat) (Option.none : Option Jvm.ClassFile.FieldType)]
set_option maxRecDepth 65536 in
theorem codes_eq : words1.filter isCode = codes1 := rfl
theorem w_codes : ∀ c ∈ words1.filter isCode, c.before args0 about1 = true := by
  rw [codes_eq]
  intro c hc
  simp only [codes1, List.mem_cons, List.not_mem_nil, or_false] at hc
  rcases hc with rfl | rfl | rfl | rfl | rfl | rfl | rfl | rfl
  · exact w_c0
  · exact w_c1
  · exact w_c2
  · exact w_c3
  · exact w_c4
  · exact w_c5
  · exact w_c6
  · exact w_c7
set_option maxRecDepth 65536 in
theorem w_t1 : (words1.take 24).all (fun c => isCode c || c.before args0 about1) = true := by decide +kernel
set_option maxRecDepth 65536 in
theorem w_t2 : (words1.drop 24).all (fun c => isCode c || c.before args0 about1) = true := by decide +kernel
theorem w_tables : (allAtoms (Jvm.Cond.code x code maxLocals ret :: tables_1)).before args0 about1 = true := by
  rw [allAtoms_all]
  show words1.all (fun c => c.before args0 about1) = true
  refine all_split ?_ w_codes
  rw [← List.take_append_drop 24 words1, List.all_append, w_t1, w_t2]
  rfl
set_option maxRecDepth 65536 in
theorem w_case : (Jvm.Cond.and given_1 narrow_1).before args0 about1 = true := by decide +kernel
theorem w_applies : (headSpec (Jvm.Cond.code x code maxLocals ret :: tables_1) room_1).applies x e0.platform about1 = true :=
  (Spec.applies_iff w_frames).mpr ⟨w_running, w_runnable, w_alone, w_named, w_hears, w_ripe, w_room, w_tables⟩
theorem atStart : AtStart classFile x code maxLocals ret World_1 tables_1 room_1 Calls_1 rest_1 Pre_1 launch0 p0 e0 about1 theMethod args0 below0 :=
  ⟨lists_1, trivial, launch0.admits_env _ _ _, launch0.least_env, fairChoices_fair.cas, fairChoices_fair.clock, w_frames, w_args, w_heap, w_applies, trivial, trivial, w_case⟩
end start1
theorem witness_1 : WitnessClaimed_1 := ⟨start1.p0, start1.e0, start1.about1, start1.theMethod, start1.args0, start1.below0, start1.atStart⟩
end Jvm.Pilot.@@N@@
