import JvmDerived
import JvmDerived.Pilot.@@N@@Statement
import JvmDerived.Pilot.@@N@@Code
set_option linter.unusedVariables false
set_option linter.unusedSimpArgs false
namespace Jvm.Pilot.@@N@@
open Jvm Jvm.ClassFile Sem Op Lib Jvm.Free Jvm.Stand Jvm.LawKit Jvm.RoadKit Bundle Jvm.Pilot.@@N@@.Jvm.D
/-! the walk's own small kit: a run that ends in a return (own_Ends), a method's contract (own_Con), one step (own_go), the returns, the calls -/
section Own
variable {p : Program} {l : Launch} {e : Env} {R : Room} {s : State} {m : MethodId} {args : Array Value} {below : List Frame} {meth : Method} {c : Code} {T : State} {locs : List Loc} {cells slots : Nat} {Z : State} {a0 : Array Value} {h : Heap} {n0 kc ks : Nat}
/-- from the frame g at T the run comes to a return; what was written lies at or above n0; Q says what is returned and what the heap is then -/
def own_Ends (p : Program) (e : Env) (below : List Frame) (s : State) (n0 kc ks : Nat) (T : State) (g : JFrame) (Q : Option Value → Heap → Prop) : Prop :=
  ∃ s₂ o, Steps p.tables e below (T.setTop g) s₂ ∧ s₂.status = .running ∧ Ended s₂ below o ∧ ∃ v L, o = .returned v ∧ (Fr n0 L ∧ Q v s₂.heap) ∧ FrameEnd s o s₂ L kc ks
theorem own_go {T' : State} {g g' : JFrame} {Q : Option Value → Heap → Prop} (k : ∀ t, Steps p.tables e below (T'.setTop g') t → Steps p.tables e below (T.setTop g) t) (q : own_Ends p e below s n0 kc ks T' g' Q) : own_Ends p e below s n0 kc ks T g Q := by
  obtain ⟨s₂, o, h1, r⟩ := q
  exact ⟨s₂, o, k _ h1, r⟩
theorem own_mono {g : JFrame} {Q Q' : Option Value → Heap → Prop} (q : own_Ends p e below s n0 kc ks T g Q) (i : ∀ v h, Q v h → Q' v h) : own_Ends p e below s n0 kc ks T g Q' := by
  obtain ⟨s₂, o, h1, h2, h3, v, L, h4, ⟨h5, h6⟩, h7⟩ := q
  exact ⟨s₂, o, h1, h2, h3, v, L, h4, ⟨h5, i _ _ h6⟩, h7⟩
theorem own_retW (X : Stand p l e R s m args below meth c T locs cells slots) (hx : p.tables.exec = Jvm.exec) (hlk : meth.locks = false) {pc : Nat} {Ls : Array Slot} {w : Value} {t : FieldType} {i : Instr} {rest : List Value} (hret : meth.sig.returnType = some t) (hn : narrow t w = w)
    (hi : (i = .ireturn ∧ (t = .int ∨ t = .boolean ∨ t = .byte ∨ t = .char ∨ t = .short) ∧ ∃ z, w = .int z) ∨ (i = .lreturn ∧ t = .long ∧ ∃ z, w = .long z) ∨ (i = .dreturn ∧ t = .double ∧ ∃ z, w = .double z) ∨ (i = .freturn ∧ t = .float ∧ ∃ z, w = .float z) ∨ (i = .areturn ∧ t.isReference = true ∧ w.isRef = true))
    (hd : decode c.code pc = .ok (i, 1)) {Q : Option Value → Heap → Prop} (hc : cells ≤ kc) (hs : slots ≤ ks) (N : Fr n0 locs) (q : Q (some w) T.heap) : own_Ends p e below s n0 kc ks T (mkF m pc Ls (w :: rest)) Q := by
  obtain ⟨fs, hr, hrun, hended, hW, hsame⟩ := X.leave (v := some w) (fun h => by rw [hret] at h; cases h) hlk
  exact ⟨_, _, retOut X hx hret hn hi hd hr, hrun, hended, _, _, rfl, ⟨N, q⟩, ⟨_, rfl⟩, hW, hsame.mono hc hs⟩
theorem own_retI (X : Stand p l e R s m args below meth c T locs cells slots) (hx : p.tables.exec = Jvm.exec) (hlk : meth.locks = false) {pc : Nat} {Ls : Array Slot} {z : Int32} {rest : List Value} (hret : meth.sig.returnType = some .int)
    (hd : decode c.code pc = .ok (.ireturn, 1)) {Q : Option Value → Heap → Prop} (hc : cells ≤ kc) (hs : slots ≤ ks) (N : Fr n0 locs) (q : Q (some (.int z)) T.heap) : own_Ends p e below s n0 kc ks T (mkF m pc Ls (.int z :: rest)) Q :=
  own_retW X hx hlk hret rfl (Or.inl ⟨rfl, Or.inl rfl, z, rfl⟩) hd hc hs N q
theorem own_retJ (X : Stand p l e R s m args below meth c T locs cells slots) (hx : p.tables.exec = Jvm.exec) (hlk : meth.locks = false) {pc : Nat} {Ls : Array Slot} {z : Int64} {rest : List Value} (hret : meth.sig.returnType = some .long)
    (hd : decode c.code pc = .ok (.lreturn, 1)) {Q : Option Value → Heap → Prop} (hc : cells ≤ kc) (hs : slots ≤ ks) (N : Fr n0 locs) (q : Q (some (.long z)) T.heap) : own_Ends p e below s n0 kc ks T (mkF m pc Ls (.long z :: rest)) Q :=
  own_retW X hx hlk hret rfl (Or.inr (Or.inl ⟨rfl, rfl, z, rfl⟩)) hd hc hs N q
theorem own_retA (X : Stand p l e R s m args below meth c T locs cells slots) (hx : p.tables.exec = Jvm.exec) (hlk : meth.locks = false) {pc : Nat} {Ls : Array Slot} {a : Addr} {t : FieldType} {rest : List Value} (hret : meth.sig.returnType = some t) (ht : t.isReference = true) (hn : narrow t (.ref a) = .ref a)
    (hd : decode c.code pc = .ok (.areturn, 1)) {Q : Option Value → Heap → Prop} (hc : cells ≤ kc) (hs : slots ≤ ks) (N : Fr n0 locs) (q : Q (some (.ref a)) T.heap) : own_Ends p e below s n0 kc ks T (mkF m pc Ls (.ref a :: rest)) Q :=
  own_retW X hx hlk hret hn (Or.inr (Or.inr (Or.inr (Or.inr ⟨rfl, ht, rfl⟩)))) hd hc hs N q
theorem own_retN (X : Stand p l e R s m args below meth c T locs cells slots) (hx : p.tables.exec = Jvm.exec) (hlk : meth.locks = false) {pc : Nat} {Ls : Array Slot} {z : Int32} {t : FieldType} {rest : List Value} (hret : meth.sig.returnType = some t) (ht : t = .boolean ∨ t = .byte ∨ t = .char ∨ t = .short)
    (hd : decode c.code pc = .ok (.ireturn, 1)) {Q : Option Value → Heap → Prop} (hc : cells ≤ kc) (hs : slots ≤ ks) (N : Fr n0 locs) (q : Q (some (.int (nar t z))) T.heap) : own_Ends p e below s n0 kc ks T (mkF m pc Ls (.int z :: rest)) Q := by
  obtain ⟨fs, hr, hrun, hended, hW, hsame⟩ := X.leave (v := some (.int (nar t z))) (fun h => by rw [hret] at h; cases h) hlk
  exact ⟨_, _, retN X hx hret ht hd hr, hrun, hended, _, _, rfl, ⟨N, q⟩, ⟨_, rfl⟩, hW, hsame.mono hc hs⟩
theorem own_retV (X : Stand p l e R s m args below meth c T locs cells slots) (hx : p.tables.exec = Jvm.exec) (hlk : meth.locks = false) {pc : Nat} {Ls : Array Slot} (hret : meth.sig.returnType = none)
    (hd : decode c.code pc = .ok (.return_, 1)) {Q : Option Value → Heap → Prop} (hc : cells ≤ kc) (hs : slots ≤ ks) (N : Fr n0 locs) (q : Q none T.heap) : own_Ends p e below s n0 kc ks T (mkF m pc Ls []) Q := by
  obtain ⟨fs, hr, hrun, hended, hW, hsame⟩ := X.leave (v := none) (fun _ => rfl) hlk
  exact ⟨_, _, X.returnOut hx hret hd hr, hrun, hended, _, _, rfl, ⟨N, q⟩, ⟨_, rfl⟩, hW, hsame.mono hc hs⟩
/-- a method's contract: called with as' at the heap h it returns, and Q says what; nothing below n0 is written -/
def own_Con (ws : List Jvm.Cond) (l : Launch) (Z : State) (y : MethodName) (bytes : ByteArray) (maxL : Nat) (ret : Option FieldType) (rm : Room) (n0 : Nat) (as' : Array Value) (h : Heap) (Q : Option Value → Heap → Prop) : Prop :=
  MetFree l y (head1 (Jvm.Cond.code y bytes maxL ret :: ws) rm) (fun a U => a = as' ∧ Z.Warmed39 U.vm ∧ U.heap = h) (fun _ _ _ _ _ => True) (fun _ U o U' => ∃ v L, o = .returned v ∧ (Fr n0 L ∧ Q v U'.heap) ∧ FrameEnd U o U' L rm.cells rm.slots)
theorem own_body {ws : List Jvm.Cond} {y : MethodName} {bytes : ByteArray} {maxL : Nat} {ret : Option FieldType} {rm : Room} {as' : Array Value} {Q : Option Value → Heap → Prop} (hy : plainFor y = true) (fr : MethodId → JFrame) (hfr : ∀ m, entryFrame m as' maxL = fr m)
    (H : ∀ (p : Program) (e : Env) (s : State) (m : MethodId) (below : List Frame) (meth : Method) (c : Code) (s₁ : State), p.tables.exec = Jvm.exec → c.code = bytes → c.maxLocals = maxL → s.vm.findClass y.cls = some m.cls → meth.name = y.name → Z.Warmed39 s.vm → meth.sig.returnType = ret → meth.locks = false →
      Stand p l e rm s m as' below meth c s₁ [] 0 0 → s₁.heap = h → Fr n0 [] → own_Ends p e below s n0 rm.cells rm.slots s₁ (fr m) Q) : own_Con ws l Z y bytes maxL ret rm n0 as' h Q := by
  refine MetFree.of_bodySF hy hisR ?_
  intro p e s m args below meth c s₁ Bd hml0 hP hK
  obtain ⟨rfl, hZ, hh⟩ := hP
  have E := H p e s m below meth c s₁ Bd.exec Bd.bytes hml0 (findClass_of_methodNamed Bd.named) (name_of_methodNamed Bd.named Bd.method).1 hZ Bd.returns Bd.notSynchronized (Stand.of_body Bd) (by rw [← hh, Bd.state]; rfl) (Fr.nil n0)
  rw [← hfr m] at E
  exact E
/-- invokestatic by the callee's contract -/
theorem own_callS (X : Stand p l e R s m args below meth c T locs cells slots) (hx : p.tables.exec = Jvm.exec) (hZ : Z.Warmed39 s.vm) {own : String} {index : Nat} {y : MethodName} {bytes : ByteArray} {maxL : Nat} {ret : Option FieldType}
    (hown : s.vm.findClass own = some m.cls) (w1 : (Jvm.Cond.methodLink own index y).before a0 Z = true) (w2 : (Jvm.Cond.static y).before a0 Z = true) (w3 : (Jvm.Cond.initialized y.cls).before a0 Z = true) (w4 : (Jvm.Cond.code y bytes maxL ret).before a0 Z = true)
    (hy : y.cls ≠ "java/lang/invoke/MethodHandle" ∧ y.cls ≠ "java/lang/invoke/VarHandle") {argsL rest : List Value} {Q : Option Value → Heap → Prop} {rm : Room} (hM : own_Con [] l Z y bytes maxL ret rm n0 argsL.toArray h Q) {W : Nat} (hf : rm.frames + 1 ≤ R.frames) (hl : W + (maxL + 11) + rm.locals ≤ R.locals)
    {g : JFrame} (hg : g.method = m) (hsize : g.locals.size = c.maxLocals) {ps : List FieldType} {r : Option FieldType} (hpd : parseMethodDescriptor y.desc = some ⟨ps, r⟩) (hlen : argsL.length = ps.length) (hstack : g.stack = argsL.reverse ++ rest) (hW : 2 * g.monitorRoom + (rest.map fun v => v.category).sum ≤ W)
    (hd : decode c.code g.pc = .ok (.invokestatic index, 3)) (eT : T.heap = h) (hc : cells + rm.cells ≤ R.cells) (hs : slots + rm.slots ≤ R.slots) (N : Fr n0 locs) :
    ∃ v T' L', Stand p l e R s m args below meth c T' L' (cells + rm.cells) (slots + rm.slots) ∧ Fr n0 L' ∧ Q v T'.heap ∧ ∀ t, Steps p.tables e below (T'.setTop { g with pc := g.pc + 3, stack := v.toList ++ rest }) t → Steps p.tables e below (T.setTop g) t := by
  obtain ⟨v, _, ⟨T', L', k', n'⟩, -, X', ⟨Lc, ⟨hN, hQ⟩, l', y', z'⟩, st⟩ := Jvm.LawKit.callS X hx hown (mvT hZ w1) (mvT hZ w2) (mvT hZ w3) (mvT hZ w4) hy (backOf (Q := fun v h L => Fr n0 L ∧ Q v h) (W := W) hM hZ w4 w3 hf hl) hg hsize (lenOf hpd hlen) hstack hW hd (fun _ _ => ⟨rfl, eT, hc, hs⟩)
  dsimp only [Pt.U, Pt.locs, Pt.cells, Pt.slots] at X' l' y' z' st hQ
  subst l' y' z'
  exact ⟨v, T', _, X', Fr.app N hN, hQ, st⟩
/-- a constructor by its contract -/
theorem own_callI (X : Stand p l e R s m args below meth c T locs cells slots) (hx : p.tables.exec = Jvm.exec) (hZ : Z.Warmed39 s.vm) {own : String} {index : Nat} {y : MethodName} {bytes : ByteArray} {maxL : Nat}
    (hy1 : y.name = "<init>") (hown : s.vm.findClass own = some m.cls) (w1 : (Jvm.Cond.methodLink own index y).before a0 Z = true) (w2 : (Jvm.Cond.instanceMethod y).before a0 Z = true) (w3 : (Jvm.Cond.initialized y.cls).before a0 Z = true) (w4 : (Jvm.Cond.code y bytes maxL none).before a0 Z = true)
    (hy : y.cls ≠ "java/lang/invoke/MethodHandle" ∧ y.cls ≠ "java/lang/invoke/VarHandle") {a : Addr} {argsL rest : List Value} {Q : Option Value → Heap → Prop} {rm : Room} (hM : own_Con [] l Z y bytes maxL none rm n0 (.ref a :: argsL).toArray h Q) {W : Nat} (hf : rm.frames + 1 ≤ R.frames) (hl : W + (maxL + 11) + rm.locals ≤ R.locals)
    {g : JFrame} (hg : g.method = m) (hsize : g.locals.size = c.maxLocals) {ps : List FieldType} {r : Option FieldType} (hpd : parseMethodDescriptor y.desc = some ⟨ps, r⟩) (hlen : argsL.length = ps.length) (hstack : g.stack = argsL.reverse ++ .ref a :: rest) (hW : 2 * g.monitorRoom + (rest.map fun v => v.category).sum ≤ W)
    (hd : decode c.code g.pc = .ok (.invokespecial index, 3)) (eT : T.heap = h) (hc : cells + rm.cells ≤ R.cells) (hs : slots + rm.slots ≤ R.slots) (N : Fr n0 locs) :
    ∃ v T' L', Stand p l e R s m args below meth c T' L' (cells + rm.cells) (slots + rm.slots) ∧ Fr n0 L' ∧ Q v T'.heap ∧ ∀ t, Steps p.tables e below (T'.setTop { g with pc := g.pc + 3, stack := v.toList ++ rest }) t → Steps p.tables e below (T.setTop g) t := by
  obtain ⟨v, _, ⟨T', L', k', n'⟩, -, X', ⟨Lc, ⟨hN, hQ⟩, l', y', z'⟩, st⟩ := X.specialBack hx hy1 hown (mvT hZ w1) (mvT hZ w2) (mvT hZ w4) hy (backOf (Q := fun v h L => Fr n0 L ∧ Q v h) (W := W) hM hZ w4 w3 hf hl) hg hsize (Steps.refl _) (lenOf hpd hlen) hstack hW hd (fun _ _ => ⟨rfl, eT, hc, hs⟩)
  dsimp only [Pt.U, Pt.locs, Pt.cells, Pt.slots] at X' l' y' z' st hQ
  subst l' y' z'
  exact ⟨v, T', _, X', Fr.app N hN, hQ, fun t k => st.trans k⟩
/-- an instance method that its own class declares, by its contract -/
theorem own_callV (X : Stand p l e R s m args below meth c T locs cells slots) (hx : p.tables.exec = Jvm.exec) (hZ : Z.Warmed39 s.vm) {own C : String} {index : Nat} {y : MethodName} {bytes : ByteArray} {maxL : Nat} {ret : Option FieldType}
    (hown : s.vm.findClass own = some m.cls) (w1 : (Jvm.Cond.methodLink own index y).before a0 Z = true) (wd : (Jvm.Cond.declares y).before a0 Z = true) (ws : (Jvm.Cond.selects C y y).before a0 Z = true) (w2 : (Jvm.Cond.instanceMethod y).before a0 Z = true) (w3 : (Jvm.Cond.initialized y.cls).before a0 Z = true) (w4 : (Jvm.Cond.code y bytes maxL ret).before a0 Z = true)
    (hy : y.cls ≠ "java/lang/invoke/MethodHandle" ∧ y.cls ≠ "java/lang/invoke/VarHandle") {a : Addr} {argsL rest : List Value} {Q : Option Value → Heap → Prop} {rm : Room} (hM : own_Con [] l Z y bytes maxL ret rm n0 (.ref a :: argsL).toArray h Q) {W : Nat} (hf : rm.frames + 1 ≤ R.frames) (hl : W + (maxL + 11) + rm.locals ≤ R.locals)
    (E : Exa Z h a C) {g : JFrame} (hg : g.method = m) (hsize : g.locals.size = c.maxLocals) {ps : List FieldType} {r : Option FieldType} (hpd : parseMethodDescriptor y.desc = some ⟨ps, r⟩) (hlen : argsL.length = ps.length) (hstack : g.stack = argsL.reverse ++ .ref a :: rest) (hW : 2 * g.monitorRoom + (rest.map fun v => v.category).sum ≤ W)
    (hd : decode c.code g.pc = .ok (.invokevirtual index, 3)) (eT : T.heap = h) (hc : cells + rm.cells ≤ R.cells) (hs : slots + rm.slots ≤ R.slots) (N : Fr n0 locs) :
    ∃ v T' L', Stand p l e R s m args below meth c T' L' (cells + rm.cells) (slots + rm.slots) ∧ Fr n0 L' ∧ Q v T'.heap ∧ ∀ t, Steps p.tables e below (T'.setTop { g with pc := g.pc + 3, stack := v.toList ++ rest }) t → Steps p.tables e below (T.setTop g) t := by
  obtain ⟨cq, kq, qa, qb, qc⟩ := isOf hZ eT E
  obtain ⟨v, _, ⟨T', L', k', n'⟩, -, X', ⟨Lc, ⟨hN, hQ⟩, l', y', z'⟩, st⟩ := X.virtualBack hx (z := y) hown (mvT hZ w1) (mvT hZ wd) (notFace_of_selects (args := #[]) (mvT hZ ws)) (mvT hZ ws) (mvT hZ w2) hy (backOf (Q := fun v h L => Fr n0 L ∧ Q v h) (W := W) hM hZ w4 w3 hf hl) qa qc hg hsize (Steps.refl _) (lenOf hpd hlen) hstack hW hd (fun _ _ => ⟨rfl, eT, hc, hs⟩)
  dsimp only [Pt.U, Pt.locs, Pt.cells, Pt.slots] at X' l' y' z' st hQ
  subst l' y' z'
  exact ⟨v, T', _, X', Fr.app N hN, hQ, fun t k => st.trans k⟩
theorem own_dup2 {g : JFrame} {target : State} (X : Stand p l e R s m args below meth c T locs cells slots) (hx : p.tables.exec = Jvm.exec) (hg : g.method = m) {x y : Value} {rest : List Value} (hd : decode c.code g.pc = .ok (.dup2, 1)) (hs : g.stack = x :: y :: rest) (hc : x.category = 1) (hc2 : y.category = 1)
    (hr : Steps p.tables e below (T.setTop { g with pc := g.pc + 1, stack := x :: y :: x :: y :: rest }) target) : Steps p.tables e below (T.setTop g) target := by
  subst hg
  jvm_step X.here [X.here.top, hx, hd, hs, hc, hc2]
  exact hr
/-! arrays by their values -/
theorem own_ldI (X : Stand p l e R s m args below meth c T locs cells slots) (hx : p.tables.exec = Jvm.exec) (hZ : Z.Warmed39 s.vm) (eT : T.heap = h) {a : Addr} {k : ClassId} {n : Int32} {vs : List Value} {d : Value} (V : Arv Z h a k .int n vs d) {j : Int32} (hj : ¬ j < 0 ∧ j < n) {v : Value} (hv : vs.getD j.toNatClampNeg d = v)
    {g : JFrame} (hg : g.method = m) {rest : List Value} (hs : g.stack = .int j :: .ref a :: rest) (hd : decode c.code g.pc = .ok (.iaload, 1)) : ∀ t, Steps p.tables e below (T.setTop { g with pc := g.pc + 1, stack := v :: rest }) t → Steps p.tables e below (T.setTop g) t := by
  obtain ⟨cl, Ar, -, S, M, H, G⟩ := V
  have hin := inb_of S hj
  exact fun t k => X.iaload hx (by rw [eT]; exact Ar.1) (State.isArrayOf_alike hZ.alike Ar.2.1) Ar.2.2 hin (H.at hin hv) hg hs hd t k
theorem own_ldJ (X : Stand p l e R s m args below meth c T locs cells slots) (hx : p.tables.exec = Jvm.exec) (hZ : Z.Warmed39 s.vm) (eT : T.heap = h) {a : Addr} {k : ClassId} {n : Int32} {vs : List Value} {d : Value} (V : Arv Z h a k .long n vs d) {j : Int32} (hj : ¬ j < 0 ∧ j < n) {v : Value} (hv : vs.getD j.toNatClampNeg d = v)
    {g : JFrame} (hg : g.method = m) {rest : List Value} (hs : g.stack = .int j :: .ref a :: rest) (hd : decode c.code g.pc = .ok (.laload, 1)) : ∀ t, Steps p.tables e below (T.setTop { g with pc := g.pc + 1, stack := v :: rest }) t → Steps p.tables e below (T.setTop g) t := by
  obtain ⟨cl, Ar, -, S, M, H, G⟩ := V
  have hin := inb_of S hj
  exact fun t k => X.laload hx (by rw [eT]; exact Ar.1) (State.isArrayOf_alike hZ.alike Ar.2.1) Ar.2.2 hin (H.at hin hv) hg hs hd t k
theorem own_ldC (X : Stand p l e R s m args below meth c T locs cells slots) (hx : p.tables.exec = Jvm.exec) (hZ : Z.Warmed39 s.vm) (eT : T.heap = h) {a : Addr} {k : ClassId} {n : Int32} {vs : List Value} {d : Value} (V : Arv Z h a k .char n vs d) {j : Int32} (hj : ¬ j < 0 ∧ j < n) {v : Value} (hv : vs.getD j.toNatClampNeg d = v)
    {g : JFrame} (hg : g.method = m) {rest : List Value} (hs : g.stack = .int j :: .ref a :: rest) (hd : decode c.code g.pc = .ok (.caload, 1)) : ∀ t, Steps p.tables e below (T.setTop { g with pc := g.pc + 1, stack := v :: rest }) t → Steps p.tables e below (T.setTop g) t := by
  obtain ⟨cl, Ar, -, S, M, H, G⟩ := V
  have hin := inb_of S hj
  exact fun t k => X.caload hx (by rw [eT]; exact Ar.1) (State.isArrayOf_alike hZ.alike Ar.2.1) Ar.2.2 hin (H.at hin hv) hg hs hd t k
theorem own_ldB (X : Stand p l e R s m args below meth c T locs cells slots) (hx : p.tables.exec = Jvm.exec) (hZ : Z.Warmed39 s.vm) (eT : T.heap = h) {a : Addr} {k : ClassId} {n : Int32} {vs : List Value} {d : Value} (V : Arv Z h a k .byte n vs d) {j : Int32} (hj : ¬ j < 0 ∧ j < n) {v : Value} (hv : vs.getD j.toNatClampNeg d = v)
    {g : JFrame} (hg : g.method = m) {rest : List Value} (hs : g.stack = .int j :: .ref a :: rest) (hd : decode c.code g.pc = .ok (.baload, 1)) : ∀ t, Steps p.tables e below (T.setTop { g with pc := g.pc + 1, stack := v :: rest }) t → Steps p.tables e below (T.setTop g) t := by
  obtain ⟨cl, Ar, -, S, M, H, G⟩ := V
  have hin := inb_of S hj
  exact fun t k => X.baloadBytes hx (by rw [eT]; exact Ar.1) (State.isArrayOf_alike hZ.alike Ar.2.1) Ar.2.2 hin (H.at hin hv) hg hs hd t k
theorem own_len (X : Stand p l e R s m args below meth c T locs cells slots) (hx : p.tables.exec = Jvm.exec) (hZ : Z.Warmed39 s.vm) (eT : T.heap = h) {a : Addr} {k : ClassId} {ty : FieldType} {n : Int32} {vs : List Value} {d : Value} (V : Arv Z h a k ty n vs d)
    {g : JFrame} (hg : g.method = m) {rest : List Value} (hs : g.stack = .ref a :: rest) (hd : decode c.code g.pc = .ok (.arraylength, 1)) : ∀ t, Steps p.tables e below (T.setTop { g with pc := g.pc + 1, stack := .int n :: rest }) t → Steps p.tables e below (T.setTop g) t := by
  obtain ⟨cl, Ar, -, S, M, H, G⟩ := V
  intro t k
  refine X.arraylength hx (by rw [eT]; exact Ar.1) (State.isArrayOf_alike hZ.alike Ar.2.1) hg hs hd _ ?_
  rw [len_of S M]
  exact k
theorem own_stI (X : Stand p l e R s m args below meth c T locs cells slots) (hx : p.tables.exec = Jvm.exec) (hZ : Z.Warmed39 s.vm) (eT : T.heap = h) {a : Addr} {k : ClassId} {n : Int32} {vs : List Value} {d : Value} (V : Arv Z h a k .int n vs d) {j : Int32} (hj : ¬ j < 0 ∧ j < n) (i : Nat) (hi : j.toNatClampNeg = i) (hl : i < vs.length) {x : Int32}
    (N : Fr n0 locs) (ga : n0 ≤ a) {g : JFrame} (hg : g.method = m) {rest : List Value} (hs : g.stack = (.int x) :: .int j :: .ref a :: rest) (hd : decode c.code g.pc = .ok (.iastore, 1)) :
    ∃ T' h' L', Stand p l e R s m args below meth c T' L' cells slots ∧ Fr n0 L' ∧ T'.heap = h' ∧ Wr h h' a i (.int x) ∧ Arv Z h' a k .int n (vs.set i (.int x)) d ∧ ∀ t, Steps p.tables e below (T'.setTop { g with pc := g.pc + 1, stack := rest }) t → Steps p.tables e below (T.setTop g) t := by
  obtain ⟨cl, Ar, q, S, M, H, G⟩ := V
  obtain ⟨T', h', X', e', W, st⟩ := stI X hx hZ eT Ar (inb_of S hj) hg hs hd
  have V' := Arv.set Ar q S M H G rfl W i hi hl
  rw [hi] at W
  exact ⟨T', h', _, X', Fr.snoc X' N ga, e', W, V', st⟩
theorem own_stJ (X : Stand p l e R s m args below meth c T locs cells slots) (hx : p.tables.exec = Jvm.exec) (hZ : Z.Warmed39 s.vm) (eT : T.heap = h) {a : Addr} {k : ClassId} {n : Int32} {vs : List Value} {d : Value} (V : Arv Z h a k .long n vs d) {j : Int32} (hj : ¬ j < 0 ∧ j < n) (i : Nat) (hi : j.toNatClampNeg = i) (hl : i < vs.length) {x : Int64}
    (N : Fr n0 locs) (ga : n0 ≤ a) {g : JFrame} (hg : g.method = m) {rest : List Value} (hs : g.stack = (.long x) :: .int j :: .ref a :: rest) (hd : decode c.code g.pc = .ok (.lastore, 1)) :
    ∃ T' h' L', Stand p l e R s m args below meth c T' L' cells slots ∧ Fr n0 L' ∧ T'.heap = h' ∧ Wr h h' a i (.long x) ∧ Arv Z h' a k .long n (vs.set i (.long x)) d ∧ ∀ t, Steps p.tables e below (T'.setTop { g with pc := g.pc + 1, stack := rest }) t → Steps p.tables e below (T.setTop g) t := by
  obtain ⟨cl, Ar, q, S, M, H, G⟩ := V
  obtain ⟨T', h', X', e', W, st⟩ := stJ X hx hZ eT Ar (inb_of S hj) hg hs hd
  have V' := Arv.set Ar q S M H G rfl W i hi hl
  rw [hi] at W
  exact ⟨T', h', _, X', Fr.snoc X' N ga, e', W, V', st⟩
theorem own_stC (X : Stand p l e R s m args below meth c T locs cells slots) (hx : p.tables.exec = Jvm.exec) (hZ : Z.Warmed39 s.vm) (eT : T.heap = h) {a : Addr} {k : ClassId} {n : Int32} {vs : List Value} {d : Value} (V : Arv Z h a k .char n vs d) {j : Int32} (hj : ¬ j < 0 ∧ j < n) (i : Nat) (hi : j.toNatClampNeg = i) (hl : i < vs.length) {x : Int32}
    (N : Fr n0 locs) (ga : n0 ≤ a) {g : JFrame} (hg : g.method = m) {rest : List Value} (hs : g.stack = (.int x) :: .int j :: .ref a :: rest) (hd : decode c.code g.pc = .ok (.castore, 1)) :
    ∃ T' h' L', Stand p l e R s m args below meth c T' L' cells slots ∧ Fr n0 L' ∧ T'.heap = h' ∧ Wr h h' a i (.int (nar .char x)) ∧ Arv Z h' a k .char n (vs.set i (.int (nar .char x))) d ∧ ∀ t, Steps p.tables e below (T'.setTop { g with pc := g.pc + 1, stack := rest }) t → Steps p.tables e below (T.setTop g) t := by
  obtain ⟨cl, Ar, q, S, M, H, G⟩ := V
  obtain ⟨T', h', X', e', W, st⟩ := stC X hx hZ eT Ar (inb_of S hj) hg hs hd
  have V' := Arv.set Ar q S M H G (fits_nar_char _) W i hi hl
  rw [hi] at W
  exact ⟨T', h', _, X', Fr.snoc X' N ga, e', W, V', st⟩
theorem own_stB (X : Stand p l e R s m args below meth c T locs cells slots) (hx : p.tables.exec = Jvm.exec) (hZ : Z.Warmed39 s.vm) (eT : T.heap = h) {a : Addr} {k : ClassId} {n : Int32} {vs : List Value} {d : Value} (V : Arv Z h a k .byte n vs d) {j : Int32} (hj : ¬ j < 0 ∧ j < n) (i : Nat) (hi : j.toNatClampNeg = i) (hl : i < vs.length) {x : Int32}
    (N : Fr n0 locs) (ga : n0 ≤ a) {g : JFrame} (hg : g.method = m) {rest : List Value} (hs : g.stack = (.int x) :: .int j :: .ref a :: rest) (hd : decode c.code g.pc = .ok (.bastore, 1)) :
    ∃ T' h' L', Stand p l e R s m args below meth c T' L' cells slots ∧ Fr n0 L' ∧ T'.heap = h' ∧ Wr h h' a i (.int (nar .byte x)) ∧ Arv Z h' a k .byte n (vs.set i (.int (nar .byte x))) d ∧ ∀ t, Steps p.tables e below (T'.setTop { g with pc := g.pc + 1, stack := rest }) t → Steps p.tables e below (T.setTop g) t := by
  obtain ⟨cl, Ar, q, S, M, H, G⟩ := V
  obtain ⟨T', h', X', e', W, st⟩ := stB X hx hZ eT Ar (inb_of S hj) hg hs hd
  have V' := Arv.set Ar q S M H G (fits_nar_byte _) W i hi hl
  rw [hi] at W
  exact ⟨T', h', _, X', Fr.snoc X' N ga, e', W, V', st⟩
theorem own_new (X : Stand p l e R s m args below meth c T locs cells slots) (hx : p.tables.exec = Jvm.exec) (hZ : Z.Warmed39 s.vm) {aty : ArrayType} (w : (Jvm.Cond.arrayClass (newarray.typeOf aty)).before a0 Z = true) (eT : T.heap = h) {g : JFrame} (hg : g.method = m) (hd : decode c.code g.pc = .ok (.newarray aty, 2)) {n : Int32} {rest : List Value} (hs : g.stack = .int n :: rest)
    (hn : ¬ n < 0) {cap : Nat} (hcap : n.toNatClampNeg ≤ cap) (hb : cap * 8 ≤ 536870912) (hc : cells + 1 ≤ R.cells) (hl : slots + cap ≤ R.slots) :
    ∃ T' h' k a, a = h.size ∧ Stand p l e R s m args below meth c T' locs (cells + 1) (slots + cap) ∧ T'.heap = h' ∧ Ext h h' ∧ Arv Z h' a k (newarray.typeOf aty) n [] (defaultValue (newarray.typeOf aty)) ∧
      ∀ t, Steps p.tables e below (T'.setTop { g with pc := g.pc + 2, stack := .ref a :: rest }) t → Steps p.tables e below (T.setTop g) t := by
  obtain ⟨T', h', k, X', e', E, A, st⟩ := newP X hx hZ w eT hg hd hs hn hcap hb hc hl
  exact ⟨T', h', k, _, rfl, X', e', E, Arv.new A hn, st⟩
/-- what a method that only reads leaves -/
def own_P (z : Value) (h0 : Heap) : Option Value → Heap → Prop := fun v h => v = some z ∧ h = h0
end Own
def f1_0 (z0 : Int64) (z1 : Int64) (z2 : Int64) (z3 : Int64) (z4 : Int64) : Int32 := (if z4 = (281474976645120 : Int64) then (if z3 = (68719476736 : Int64) then (if z2 = (0 : Int64) then (if z1 = (17592186044415 : Int64) then (if z0 < (4503599627370495 : Int64) then (1 : Int32) else (0 : Int32)) else (if z1 < (17592186044415 : Int64) then (1 : Int32) else (0 : Int32))) else (if z2 < (0 : Int64) then (1 : Int32) else (0 : Int32))) else (if z3 < (68719476736 : Int64) then (1 : Int32) else (0 : Int32))) else (if z4 < (281474976645120 : Int64) then (1 : Int32) else (0 : Int32)))
abbrev own_r1 : Room := { frames := 0, cells := 0, slots := 0, locals := 0 }
theorem d1_0 : decode method_5_code 0 = .ok (.aload_n 0, 1) := by decide +kernel
theorem d1_1 : decode method_5_code 1 = .ok (.iconst 4, 1) := by decide +kernel
theorem d1_2 : decode method_5_code 2 = .ok (.laload, 1) := by decide +kernel
theorem d1_3 : decode method_5_code 3 = .ok (.ldc2_w 29, 3) := by decide +kernel
theorem d1_6 : decode method_5_code 6 = .ok (.lcmp, 1) := by decide +kernel
theorem d1_7 : decode method_5_code 7 = .ok (.ifCond .eq 19, 3) := by decide +kernel
theorem d1_26 : decode method_5_code 26 = .ok (.aload_n 0, 1) := by decide +kernel
theorem d1_27 : decode method_5_code 27 = .ok (.iconst 3, 1) := by decide +kernel
theorem d1_28 : decode method_5_code 28 = .ok (.laload, 1) := by decide +kernel
theorem d1_29 : decode method_5_code 29 = .ok (.ldc2_w 27, 3) := by decide +kernel
theorem d1_32 : decode method_5_code 32 = .ok (.lcmp, 1) := by decide +kernel
theorem d1_33 : decode method_5_code 33 = .ok (.ifCond .eq 19, 3) := by decide +kernel
theorem d1_52 : decode method_5_code 52 = .ok (.aload_n 0, 1) := by decide +kernel
theorem d1_53 : decode method_5_code 53 = .ok (.iconst 2, 1) := by decide +kernel
theorem d1_54 : decode method_5_code 54 = .ok (.laload, 1) := by decide +kernel
theorem d1_55 : decode method_5_code 55 = .ok (.lconst 0, 1) := by decide +kernel
theorem d1_56 : decode method_5_code 56 = .ok (.lcmp, 1) := by decide +kernel
theorem d1_57 : decode method_5_code 57 = .ok (.ifCond .eq 17, 3) := by decide +kernel
theorem d1_74 : decode method_5_code 74 = .ok (.aload_n 0, 1) := by decide +kernel
theorem d1_75 : decode method_5_code 75 = .ok (.iconst 1, 1) := by decide +kernel
theorem d1_76 : decode method_5_code 76 = .ok (.laload, 1) := by decide +kernel
theorem d1_77 : decode method_5_code 77 = .ok (.ldc2_w 25, 3) := by decide +kernel
theorem d1_80 : decode method_5_code 80 = .ok (.lcmp, 1) := by decide +kernel
theorem d1_81 : decode method_5_code 81 = .ok (.ifCond .eq 19, 3) := by decide +kernel
theorem d1_100 : decode method_5_code 100 = .ok (.aload_n 0, 1) := by decide +kernel
theorem d1_101 : decode method_5_code 101 = .ok (.iconst 0, 1) := by decide +kernel
theorem d1_102 : decode method_5_code 102 = .ok (.laload, 1) := by decide +kernel
theorem d1_103 : decode method_5_code 103 = .ok (.ldc2_w 7, 3) := by decide +kernel
theorem d1_106 : decode method_5_code 106 = .ok (.lcmp, 1) := by decide +kernel
theorem d1_107 : decode method_5_code 107 = .ok (.ifCond .ge 7, 3) := by decide +kernel
theorem d1_110 : decode method_5_code 110 = .ok (.iconst 1, 1) := by decide +kernel
theorem d1_111 : decode method_5_code 111 = .ok (.goto 4, 3) := by decide +kernel
theorem d1_115 : decode method_5_code 115 = .ok (.ireturn, 1) := by decide +kernel
theorem d1_114 : decode method_5_code 114 = .ok (.iconst 0, 1) := by decide +kernel
theorem d1_84 : decode method_5_code 84 = .ok (.aload_n 0, 1) := by decide +kernel
theorem d1_85 : decode method_5_code 85 = .ok (.iconst 1, 1) := by decide +kernel
theorem d1_86 : decode method_5_code 86 = .ok (.laload, 1) := by decide +kernel
theorem d1_87 : decode method_5_code 87 = .ok (.ldc2_w 25, 3) := by decide +kernel
theorem d1_90 : decode method_5_code 90 = .ok (.lcmp, 1) := by decide +kernel
theorem d1_91 : decode method_5_code 91 = .ok (.ifCond .ge 7, 3) := by decide +kernel
theorem d1_94 : decode method_5_code 94 = .ok (.iconst 1, 1) := by decide +kernel
theorem d1_95 : decode method_5_code 95 = .ok (.goto 4, 3) := by decide +kernel
theorem d1_99 : decode method_5_code 99 = .ok (.ireturn, 1) := by decide +kernel
theorem d1_98 : decode method_5_code 98 = .ok (.iconst 0, 1) := by decide +kernel
theorem d1_60 : decode method_5_code 60 = .ok (.aload_n 0, 1) := by decide +kernel
theorem d1_61 : decode method_5_code 61 = .ok (.iconst 2, 1) := by decide +kernel
theorem d1_62 : decode method_5_code 62 = .ok (.laload, 1) := by decide +kernel
theorem d1_63 : decode method_5_code 63 = .ok (.lconst 0, 1) := by decide +kernel
theorem d1_64 : decode method_5_code 64 = .ok (.lcmp, 1) := by decide +kernel
theorem d1_65 : decode method_5_code 65 = .ok (.ifCond .ge 7, 3) := by decide +kernel
theorem d1_68 : decode method_5_code 68 = .ok (.iconst 1, 1) := by decide +kernel
theorem d1_69 : decode method_5_code 69 = .ok (.goto 4, 3) := by decide +kernel
theorem d1_73 : decode method_5_code 73 = .ok (.ireturn, 1) := by decide +kernel
theorem d1_72 : decode method_5_code 72 = .ok (.iconst 0, 1) := by decide +kernel
theorem d1_36 : decode method_5_code 36 = .ok (.aload_n 0, 1) := by decide +kernel
theorem d1_37 : decode method_5_code 37 = .ok (.iconst 3, 1) := by decide +kernel
theorem d1_38 : decode method_5_code 38 = .ok (.laload, 1) := by decide +kernel
theorem d1_39 : decode method_5_code 39 = .ok (.ldc2_w 27, 3) := by decide +kernel
theorem d1_42 : decode method_5_code 42 = .ok (.lcmp, 1) := by decide +kernel
theorem d1_43 : decode method_5_code 43 = .ok (.ifCond .ge 7, 3) := by decide +kernel
theorem d1_46 : decode method_5_code 46 = .ok (.iconst 1, 1) := by decide +kernel
theorem d1_47 : decode method_5_code 47 = .ok (.goto 4, 3) := by decide +kernel
theorem d1_51 : decode method_5_code 51 = .ok (.ireturn, 1) := by decide +kernel
theorem d1_50 : decode method_5_code 50 = .ok (.iconst 0, 1) := by decide +kernel
theorem d1_10 : decode method_5_code 10 = .ok (.aload_n 0, 1) := by decide +kernel
theorem d1_11 : decode method_5_code 11 = .ok (.iconst 4, 1) := by decide +kernel
theorem d1_12 : decode method_5_code 12 = .ok (.laload, 1) := by decide +kernel
theorem d1_13 : decode method_5_code 13 = .ok (.ldc2_w 29, 3) := by decide +kernel
theorem d1_16 : decode method_5_code 16 = .ok (.lcmp, 1) := by decide +kernel
theorem d1_17 : decode method_5_code 17 = .ok (.ifCond .ge 7, 3) := by decide +kernel
theorem d1_20 : decode method_5_code 20 = .ok (.iconst 1, 1) := by decide +kernel
theorem d1_21 : decode method_5_code 21 = .ok (.goto 4, 3) := by decide +kernel
theorem d1_25 : decode method_5_code 25 = .ok (.ireturn, 1) := by decide +kernel
theorem d1_24 : decode method_5_code 24 = .ok (.iconst 0, 1) := by decide +kernel
theorem ef_1 (m : MethodId) (r0 : Addr) : entryFrame m #[(.ref r0)] 1 = mkF m 0 #[.val (.ref r0)] [] := by first | (simp [entryFrame, mkF, argsToLocals, Value.category]; done) | rfl
set_option maxRecDepth 65536 in
set_option maxHeartbeats 40000000 in
theorem rm1 (l : Launch) (Z : State) (a0 : Array Value) (hw : ∀ d ∈ tables_1, d.before a0 Z = true) (r0 : Addr) (k_r0 : ClassId) (z0 : Int64) (z1 : Int64) (z2 : Int64) (z3 : Int64) (z4 : Int64) (h0 : Heap) (n0 : Nat) (V_r0 : Arv Z h0 r0 k_r0 .long (5 : Int32) [(.long z0), (.long z1), (.long z2), (.long z3), (.long z4)] (.long (0 : Int64))) : own_Con [] l Z (⟨"com/example/linkwell/linkwell/cards/P256FieldSubPinLaw", "lessThanP", "([J)Z"⟩ : MethodName) method_5_code 1 (some .boolean) own_r1 n0 #[(.ref r0)] h0 (own_P (.int (f1_0 z0 z1 z2 z3 z4)) h0) := by
  refine own_body (plainFor_of_name (by first | (simp [plainName, overriddenIn]; done) | decide +kernel)) (fun m => mkF m 0 #[.val (.ref r0)] []) (fun m => ef_1 m r0) ?_
  intro p e s m below meth c s₁ hx hby hml hown hnm hZ hret hlk X0 e0 N0
  show own_Ends p e below s n0 _ _ _ _ (own_P (.int (if z4 = (281474976645120 : Int64) then (if z3 = (68719476736 : Int64) then (if z2 = (0 : Int64) then (if z1 = (17592186044415 : Int64) then (if z0 < (4503599627370495 : Int64) then (1 : Int32) else (0 : Int32)) else (if z1 < (17592186044415 : Int64) then (1 : Int32) else (0 : Int32))) else (if z2 < (0 : Int64) then (1 : Int32) else (0 : Int32))) else (if z3 < (68719476736 : Int64) then (1 : Int32) else (0 : Int32))) else (if z4 < (281474976645120 : Int64) then (1 : Int32) else (0 : Int32)))) h0)
  refine own_go (T' := s₁) (g' := (mkF m 7 #[.val (.ref r0)] [(.int (lcmpW z4 (281474976645120 : Int64)))])) (fun t k => ?_) ?_
  · show Steps p.tables e below (s₁.setTop (mkF m 0 #[.val (.ref r0)] [])) t
    refine XS.aloadN X0.here hx rfl (hb hby d1_0) rfl rfl ?_
    show Steps p.tables e below (s₁.setTop (mkF m 1 #[.val (.ref r0)] [(.ref r0)])) _
    refine XS.iconst X0.here hx rfl (hb hby d1_1) ?_
    show Steps p.tables e below (s₁.setTop (mkF m 2 #[.val (.ref r0)] [(.int (4 : Int32)), (.ref r0)])) _
    refine own_ldJ X0 hx hZ e0 V_r0 (j := (4 : Int32)) (by decide) (v := (.long z4)) rfl (g := (mkF m 2 #[.val (.ref r0)] [(.int (4 : Int32)), (.ref r0)])) rfl rfl (hb hby d1_2) _ ?_
    show Steps p.tables e below (s₁.setTop (mkF m 3 #[.val (.ref r0)] [(.long z4)])) _
    refine X0.ldc2Long hx hown (mvT hZ (hw _ (List.mem_of_getElem? (i := 7) rfl))) (g := (mkF m 3 #[.val (.ref r0)] [(.long z4)])) rfl (hb hby d1_3) _ ?_
    show Steps p.tables e below (s₁.setTop (mkF m 6 #[.val (.ref r0)] [(.long (281474976645120 : Int64)), (.long z4)])) _
    refine XS.lcmp X0.here hx rfl (hb hby d1_6) rfl ?_
    show Steps p.tables e below (s₁.setTop (mkF m 7 #[.val (.ref r0)] [(.int (lcmpW z4 (281474976645120 : Int64)))])) _
    exact k
  by_cases hc7_1 : z4 = (281474976645120 : Int64)
  · rw [if_pos hc7_1]
    refine own_go (T' := s₁) (g' := (mkF m 26 #[.val (.ref r0)] [])) (fun t k => ?_) ?_
    · refine XS.ifYes X0.here hx rfl (pc0 := 7) (pc' := 26) rfl (hb hby d1_7) rfl ((if0 _ _).trans (teq ((lw_eq _ _).mpr hc7_1)).1) (by decide) (by decide) ?_
      exact k
    refine own_go (T' := s₁) (g' := (mkF m 33 #[.val (.ref r0)] [(.int (lcmpW z3 (68719476736 : Int64)))])) (fun t k => ?_) ?_
    · show Steps p.tables e below (s₁.setTop (mkF m 26 #[.val (.ref r0)] [])) t
      refine XS.aloadN X0.here hx rfl (hb hby d1_26) rfl rfl ?_
      show Steps p.tables e below (s₁.setTop (mkF m 27 #[.val (.ref r0)] [(.ref r0)])) _
      refine XS.iconst X0.here hx rfl (hb hby d1_27) ?_
      show Steps p.tables e below (s₁.setTop (mkF m 28 #[.val (.ref r0)] [(.int (3 : Int32)), (.ref r0)])) _
      refine own_ldJ X0 hx hZ e0 V_r0 (j := (3 : Int32)) (by decide) (v := (.long z3)) rfl (g := (mkF m 28 #[.val (.ref r0)] [(.int (3 : Int32)), (.ref r0)])) rfl rfl (hb hby d1_28) _ ?_
      show Steps p.tables e below (s₁.setTop (mkF m 29 #[.val (.ref r0)] [(.long z3)])) _
      refine X0.ldc2Long hx hown (mvT hZ (hw _ (List.mem_of_getElem? (i := 13) rfl))) (g := (mkF m 29 #[.val (.ref r0)] [(.long z3)])) rfl (hb hby d1_29) _ ?_
      show Steps p.tables e below (s₁.setTop (mkF m 32 #[.val (.ref r0)] [(.long (68719476736 : Int64)), (.long z3)])) _
      refine XS.lcmp X0.here hx rfl (hb hby d1_32) rfl ?_
      show Steps p.tables e below (s₁.setTop (mkF m 33 #[.val (.ref r0)] [(.int (lcmpW z3 (68719476736 : Int64)))])) _
      exact k
    by_cases hc33_2 : z3 = (68719476736 : Int64)
    · rw [if_pos hc33_2]
      refine own_go (T' := s₁) (g' := (mkF m 52 #[.val (.ref r0)] [])) (fun t k => ?_) ?_
      · refine XS.ifYes X0.here hx rfl (pc0 := 33) (pc' := 52) rfl (hb hby d1_33) rfl ((if0 _ _).trans (teq ((lw_eq _ _).mpr hc33_2)).1) (by decide) (by decide) ?_
        exact k
      refine own_go (T' := s₁) (g' := (mkF m 57 #[.val (.ref r0)] [(.int (lcmpW z2 (0 : Int64)))])) (fun t k => ?_) ?_
      · show Steps p.tables e below (s₁.setTop (mkF m 52 #[.val (.ref r0)] [])) t
        refine XS.aloadN X0.here hx rfl (hb hby d1_52) rfl rfl ?_
        show Steps p.tables e below (s₁.setTop (mkF m 53 #[.val (.ref r0)] [(.ref r0)])) _
        refine XS.iconst X0.here hx rfl (hb hby d1_53) ?_
        show Steps p.tables e below (s₁.setTop (mkF m 54 #[.val (.ref r0)] [(.int (2 : Int32)), (.ref r0)])) _
        refine own_ldJ X0 hx hZ e0 V_r0 (j := (2 : Int32)) (by decide) (v := (.long z2)) rfl (g := (mkF m 54 #[.val (.ref r0)] [(.int (2 : Int32)), (.ref r0)])) rfl rfl (hb hby d1_54) _ ?_
        show Steps p.tables e below (s₁.setTop (mkF m 55 #[.val (.ref r0)] [(.long z2)])) _
        refine XS.lconst X0.here hx rfl (hb hby d1_55) ?_
        show Steps p.tables e below (s₁.setTop (mkF m 56 #[.val (.ref r0)] [(.long (0 : Int64)), (.long z2)])) _
        refine XS.lcmp X0.here hx rfl (hb hby d1_56) rfl ?_
        show Steps p.tables e below (s₁.setTop (mkF m 57 #[.val (.ref r0)] [(.int (lcmpW z2 (0 : Int64)))])) _
        exact k
      by_cases hc57_3 : z2 = (0 : Int64)
      · rw [if_pos hc57_3]
        refine own_go (T' := s₁) (g' := (mkF m 74 #[.val (.ref r0)] [])) (fun t k => ?_) ?_
        · refine XS.ifYes X0.here hx rfl (pc0 := 57) (pc' := 74) rfl (hb hby d1_57) rfl ((if0 _ _).trans (teq ((lw_eq _ _).mpr hc57_3)).1) (by decide) (by decide) ?_
          exact k
        refine own_go (T' := s₁) (g' := (mkF m 81 #[.val (.ref r0)] [(.int (lcmpW z1 (17592186044415 : Int64)))])) (fun t k => ?_) ?_
        · show Steps p.tables e below (s₁.setTop (mkF m 74 #[.val (.ref r0)] [])) t
          refine XS.aloadN X0.here hx rfl (hb hby d1_74) rfl rfl ?_
          show Steps p.tables e below (s₁.setTop (mkF m 75 #[.val (.ref r0)] [(.ref r0)])) _
          refine XS.iconst X0.here hx rfl (hb hby d1_75) ?_
          show Steps p.tables e below (s₁.setTop (mkF m 76 #[.val (.ref r0)] [(.int (1 : Int32)), (.ref r0)])) _
          refine own_ldJ X0 hx hZ e0 V_r0 (j := (1 : Int32)) (by decide) (v := (.long z1)) rfl (g := (mkF m 76 #[.val (.ref r0)] [(.int (1 : Int32)), (.ref r0)])) rfl rfl (hb hby d1_76) _ ?_
          show Steps p.tables e below (s₁.setTop (mkF m 77 #[.val (.ref r0)] [(.long z1)])) _
          refine X0.ldc2Long hx hown (mvT hZ (hw _ (List.mem_of_getElem? (i := 12) rfl))) (g := (mkF m 77 #[.val (.ref r0)] [(.long z1)])) rfl (hb hby d1_77) _ ?_
          show Steps p.tables e below (s₁.setTop (mkF m 80 #[.val (.ref r0)] [(.long (17592186044415 : Int64)), (.long z1)])) _
          refine XS.lcmp X0.here hx rfl (hb hby d1_80) rfl ?_
          show Steps p.tables e below (s₁.setTop (mkF m 81 #[.val (.ref r0)] [(.int (lcmpW z1 (17592186044415 : Int64)))])) _
          exact k
        by_cases hc81_4 : z1 = (17592186044415 : Int64)
        · rw [if_pos hc81_4]
          refine own_go (T' := s₁) (g' := (mkF m 100 #[.val (.ref r0)] [])) (fun t k => ?_) ?_
          · refine XS.ifYes X0.here hx rfl (pc0 := 81) (pc' := 100) rfl (hb hby d1_81) rfl ((if0 _ _).trans (teq ((lw_eq _ _).mpr hc81_4)).1) (by decide) (by decide) ?_
            exact k
          refine own_go (T' := s₁) (g' := (mkF m 107 #[.val (.ref r0)] [(.int (lcmpW z0 (4503599627370495 : Int64)))])) (fun t k => ?_) ?_
          · show Steps p.tables e below (s₁.setTop (mkF m 100 #[.val (.ref r0)] [])) t
            refine XS.aloadN X0.here hx rfl (hb hby d1_100) rfl rfl ?_
            show Steps p.tables e below (s₁.setTop (mkF m 101 #[.val (.ref r0)] [(.ref r0)])) _
            refine XS.iconst X0.here hx rfl (hb hby d1_101) ?_
            show Steps p.tables e below (s₁.setTop (mkF m 102 #[.val (.ref r0)] [(.int (0 : Int32)), (.ref r0)])) _
            refine own_ldJ X0 hx hZ e0 V_r0 (j := (0 : Int32)) (by decide) (v := (.long z0)) rfl (g := (mkF m 102 #[.val (.ref r0)] [(.int (0 : Int32)), (.ref r0)])) rfl rfl (hb hby d1_102) _ ?_
            show Steps p.tables e below (s₁.setTop (mkF m 103 #[.val (.ref r0)] [(.long z0)])) _
            refine X0.ldc2Long hx hown (mvT hZ (hw _ (List.mem_of_getElem? (i := 1) rfl))) (g := (mkF m 103 #[.val (.ref r0)] [(.long z0)])) rfl (hb hby d1_103) _ ?_
            show Steps p.tables e below (s₁.setTop (mkF m 106 #[.val (.ref r0)] [(.long (4503599627370495 : Int64)), (.long z0)])) _
            refine XS.lcmp X0.here hx rfl (hb hby d1_106) rfl ?_
            show Steps p.tables e below (s₁.setTop (mkF m 107 #[.val (.ref r0)] [(.int (lcmpW z0 (4503599627370495 : Int64)))])) _
            exact k
          by_cases hc107_5 : z0 < (4503599627370495 : Int64)
          · rw [if_pos hc107_5]
            refine own_go (T' := s₁) (g' := (mkF m 110 #[.val (.ref r0)] [])) (fun t k => ?_) ?_
            · refine XS.ifNo X0.here hx rfl (hb hby d1_107) rfl ((if0 _ _).trans (tlt ((lw_lt _ _).mpr hc107_5)).2.1) ?_
              exact k
            refine own_go (T' := s₁) (g' := (mkF m 115 #[.val (.ref r0)] [(.int (1 : Int32))])) (fun t k => ?_) ?_
            · show Steps p.tables e below (s₁.setTop (mkF m 110 #[.val (.ref r0)] [])) t
              refine XS.iconst X0.here hx rfl (hb hby d1_110) ?_
              show Steps p.tables e below (s₁.setTop (mkF m 111 #[.val (.ref r0)] [(.int (1 : Int32))])) _
              refine XS.goto X0.here hx rfl (pc0 := 111) (pc' := 115) rfl (hb hby d1_111) (by decide) (by decide) ?_
              show Steps p.tables e below (s₁.setTop (mkF m 115 #[.val (.ref r0)] [(.int (1 : Int32))])) _
              exact k
            exact own_retN X0 hx hlk hret (by simp) (hb hby d1_115) (by decide) (by decide) N0 ⟨rfl, e0⟩
          · rw [if_neg hc107_5]
            refine own_go (T' := s₁) (g' := (mkF m 114 #[.val (.ref r0)] [])) (fun t k => ?_) ?_
            · refine XS.ifYes X0.here hx rfl (pc0 := 107) (pc' := 114) rfl (hb hby d1_107) rfl ((if0 _ _).trans (flt (mt (lw_lt _ _).mp hc107_5)).2.1) (by decide) (by decide) ?_
              exact k
            refine own_go (T' := s₁) (g' := (mkF m 115 #[.val (.ref r0)] [(.int (0 : Int32))])) (fun t k => ?_) ?_
            · show Steps p.tables e below (s₁.setTop (mkF m 114 #[.val (.ref r0)] [])) t
              refine XS.iconst X0.here hx rfl (hb hby d1_114) ?_
              show Steps p.tables e below (s₁.setTop (mkF m 115 #[.val (.ref r0)] [(.int (0 : Int32))])) _
              exact k
            exact own_retN X0 hx hlk hret (by simp) (hb hby d1_115) (by decide) (by decide) N0 ⟨rfl, e0⟩
        · rw [if_neg hc81_4]
          refine own_go (T' := s₁) (g' := (mkF m 84 #[.val (.ref r0)] [])) (fun t k => ?_) ?_
          · refine XS.ifNo X0.here hx rfl (hb hby d1_81) rfl ((if0 _ _).trans (feq (mt (lw_eq _ _).mp hc81_4)).1) ?_
            exact k
          refine own_go (T' := s₁) (g' := (mkF m 91 #[.val (.ref r0)] [(.int (lcmpW z1 (17592186044415 : Int64)))])) (fun t k => ?_) ?_
          · show Steps p.tables e below (s₁.setTop (mkF m 84 #[.val (.ref r0)] [])) t
            refine XS.aloadN X0.here hx rfl (hb hby d1_84) rfl rfl ?_
            show Steps p.tables e below (s₁.setTop (mkF m 85 #[.val (.ref r0)] [(.ref r0)])) _
            refine XS.iconst X0.here hx rfl (hb hby d1_85) ?_
            show Steps p.tables e below (s₁.setTop (mkF m 86 #[.val (.ref r0)] [(.int (1 : Int32)), (.ref r0)])) _
            refine own_ldJ X0 hx hZ e0 V_r0 (j := (1 : Int32)) (by decide) (v := (.long z1)) rfl (g := (mkF m 86 #[.val (.ref r0)] [(.int (1 : Int32)), (.ref r0)])) rfl rfl (hb hby d1_86) _ ?_
            show Steps p.tables e below (s₁.setTop (mkF m 87 #[.val (.ref r0)] [(.long z1)])) _
            refine X0.ldc2Long hx hown (mvT hZ (hw _ (List.mem_of_getElem? (i := 12) rfl))) (g := (mkF m 87 #[.val (.ref r0)] [(.long z1)])) rfl (hb hby d1_87) _ ?_
            show Steps p.tables e below (s₁.setTop (mkF m 90 #[.val (.ref r0)] [(.long (17592186044415 : Int64)), (.long z1)])) _
            refine XS.lcmp X0.here hx rfl (hb hby d1_90) rfl ?_
            show Steps p.tables e below (s₁.setTop (mkF m 91 #[.val (.ref r0)] [(.int (lcmpW z1 (17592186044415 : Int64)))])) _
            exact k
          by_cases hc91_6 : z1 < (17592186044415 : Int64)
          · rw [if_pos hc91_6]
            refine own_go (T' := s₁) (g' := (mkF m 94 #[.val (.ref r0)] [])) (fun t k => ?_) ?_
            · refine XS.ifNo X0.here hx rfl (hb hby d1_91) rfl ((if0 _ _).trans (tlt ((lw_lt _ _).mpr hc91_6)).2.1) ?_
              exact k
            refine own_go (T' := s₁) (g' := (mkF m 99 #[.val (.ref r0)] [(.int (1 : Int32))])) (fun t k => ?_) ?_
            · show Steps p.tables e below (s₁.setTop (mkF m 94 #[.val (.ref r0)] [])) t
              refine XS.iconst X0.here hx rfl (hb hby d1_94) ?_
              show Steps p.tables e below (s₁.setTop (mkF m 95 #[.val (.ref r0)] [(.int (1 : Int32))])) _
              refine XS.goto X0.here hx rfl (pc0 := 95) (pc' := 99) rfl (hb hby d1_95) (by decide) (by decide) ?_
              show Steps p.tables e below (s₁.setTop (mkF m 99 #[.val (.ref r0)] [(.int (1 : Int32))])) _
              exact k
            exact own_retN X0 hx hlk hret (by simp) (hb hby d1_99) (by decide) (by decide) N0 ⟨rfl, e0⟩
          · rw [if_neg hc91_6]
            refine own_go (T' := s₁) (g' := (mkF m 98 #[.val (.ref r0)] [])) (fun t k => ?_) ?_
            · refine XS.ifYes X0.here hx rfl (pc0 := 91) (pc' := 98) rfl (hb hby d1_91) rfl ((if0 _ _).trans (flt (mt (lw_lt _ _).mp hc91_6)).2.1) (by decide) (by decide) ?_
              exact k
            refine own_go (T' := s₁) (g' := (mkF m 99 #[.val (.ref r0)] [(.int (0 : Int32))])) (fun t k => ?_) ?_
            · show Steps p.tables e below (s₁.setTop (mkF m 98 #[.val (.ref r0)] [])) t
              refine XS.iconst X0.here hx rfl (hb hby d1_98) ?_
              show Steps p.tables e below (s₁.setTop (mkF m 99 #[.val (.ref r0)] [(.int (0 : Int32))])) _
              exact k
            exact own_retN X0 hx hlk hret (by simp) (hb hby d1_99) (by decide) (by decide) N0 ⟨rfl, e0⟩
      · rw [if_neg hc57_3]
        refine own_go (T' := s₁) (g' := (mkF m 60 #[.val (.ref r0)] [])) (fun t k => ?_) ?_
        · refine XS.ifNo X0.here hx rfl (hb hby d1_57) rfl ((if0 _ _).trans (feq (mt (lw_eq _ _).mp hc57_3)).1) ?_
          exact k
        refine own_go (T' := s₁) (g' := (mkF m 65 #[.val (.ref r0)] [(.int (lcmpW z2 (0 : Int64)))])) (fun t k => ?_) ?_
        · show Steps p.tables e below (s₁.setTop (mkF m 60 #[.val (.ref r0)] [])) t
          refine XS.aloadN X0.here hx rfl (hb hby d1_60) rfl rfl ?_
          show Steps p.tables e below (s₁.setTop (mkF m 61 #[.val (.ref r0)] [(.ref r0)])) _
          refine XS.iconst X0.here hx rfl (hb hby d1_61) ?_
          show Steps p.tables e below (s₁.setTop (mkF m 62 #[.val (.ref r0)] [(.int (2 : Int32)), (.ref r0)])) _
          refine own_ldJ X0 hx hZ e0 V_r0 (j := (2 : Int32)) (by decide) (v := (.long z2)) rfl (g := (mkF m 62 #[.val (.ref r0)] [(.int (2 : Int32)), (.ref r0)])) rfl rfl (hb hby d1_62) _ ?_
          show Steps p.tables e below (s₁.setTop (mkF m 63 #[.val (.ref r0)] [(.long z2)])) _
          refine XS.lconst X0.here hx rfl (hb hby d1_63) ?_
          show Steps p.tables e below (s₁.setTop (mkF m 64 #[.val (.ref r0)] [(.long (0 : Int64)), (.long z2)])) _
          refine XS.lcmp X0.here hx rfl (hb hby d1_64) rfl ?_
          show Steps p.tables e below (s₁.setTop (mkF m 65 #[.val (.ref r0)] [(.int (lcmpW z2 (0 : Int64)))])) _
          exact k
        by_cases hc65_7 : z2 < (0 : Int64)
        · rw [if_pos hc65_7]
          refine own_go (T' := s₁) (g' := (mkF m 68 #[.val (.ref r0)] [])) (fun t k => ?_) ?_
          · refine XS.ifNo X0.here hx rfl (hb hby d1_65) rfl ((if0 _ _).trans (tlt ((lw_lt _ _).mpr hc65_7)).2.1) ?_
            exact k
          refine own_go (T' := s₁) (g' := (mkF m 73 #[.val (.ref r0)] [(.int (1 : Int32))])) (fun t k => ?_) ?_
          · show Steps p.tables e below (s₁.setTop (mkF m 68 #[.val (.ref r0)] [])) t
            refine XS.iconst X0.here hx rfl (hb hby d1_68) ?_
            show Steps p.tables e below (s₁.setTop (mkF m 69 #[.val (.ref r0)] [(.int (1 : Int32))])) _
            refine XS.goto X0.here hx rfl (pc0 := 69) (pc' := 73) rfl (hb hby d1_69) (by decide) (by decide) ?_
            show Steps p.tables e below (s₁.setTop (mkF m 73 #[.val (.ref r0)] [(.int (1 : Int32))])) _
            exact k
          exact own_retN X0 hx hlk hret (by simp) (hb hby d1_73) (by decide) (by decide) N0 ⟨rfl, e0⟩
        · rw [if_neg hc65_7]
          refine own_go (T' := s₁) (g' := (mkF m 72 #[.val (.ref r0)] [])) (fun t k => ?_) ?_
          · refine XS.ifYes X0.here hx rfl (pc0 := 65) (pc' := 72) rfl (hb hby d1_65) rfl ((if0 _ _).trans (flt (mt (lw_lt _ _).mp hc65_7)).2.1) (by decide) (by decide) ?_
            exact k
          refine own_go (T' := s₁) (g' := (mkF m 73 #[.val (.ref r0)] [(.int (0 : Int32))])) (fun t k => ?_) ?_
          · show Steps p.tables e below (s₁.setTop (mkF m 72 #[.val (.ref r0)] [])) t
            refine XS.iconst X0.here hx rfl (hb hby d1_72) ?_
            show Steps p.tables e below (s₁.setTop (mkF m 73 #[.val (.ref r0)] [(.int (0 : Int32))])) _
            exact k
          exact own_retN X0 hx hlk hret (by simp) (hb hby d1_73) (by decide) (by decide) N0 ⟨rfl, e0⟩
    · rw [if_neg hc33_2]
      refine own_go (T' := s₁) (g' := (mkF m 36 #[.val (.ref r0)] [])) (fun t k => ?_) ?_
      · refine XS.ifNo X0.here hx rfl (hb hby d1_33) rfl ((if0 _ _).trans (feq (mt (lw_eq _ _).mp hc33_2)).1) ?_
        exact k
      refine own_go (T' := s₁) (g' := (mkF m 43 #[.val (.ref r0)] [(.int (lcmpW z3 (68719476736 : Int64)))])) (fun t k => ?_) ?_
      · show Steps p.tables e below (s₁.setTop (mkF m 36 #[.val (.ref r0)] [])) t
        refine XS.aloadN X0.here hx rfl (hb hby d1_36) rfl rfl ?_
        show Steps p.tables e below (s₁.setTop (mkF m 37 #[.val (.ref r0)] [(.ref r0)])) _
        refine XS.iconst X0.here hx rfl (hb hby d1_37) ?_
        show Steps p.tables e below (s₁.setTop (mkF m 38 #[.val (.ref r0)] [(.int (3 : Int32)), (.ref r0)])) _
        refine own_ldJ X0 hx hZ e0 V_r0 (j := (3 : Int32)) (by decide) (v := (.long z3)) rfl (g := (mkF m 38 #[.val (.ref r0)] [(.int (3 : Int32)), (.ref r0)])) rfl rfl (hb hby d1_38) _ ?_
        show Steps p.tables e below (s₁.setTop (mkF m 39 #[.val (.ref r0)] [(.long z3)])) _
        refine X0.ldc2Long hx hown (mvT hZ (hw _ (List.mem_of_getElem? (i := 13) rfl))) (g := (mkF m 39 #[.val (.ref r0)] [(.long z3)])) rfl (hb hby d1_39) _ ?_
        show Steps p.tables e below (s₁.setTop (mkF m 42 #[.val (.ref r0)] [(.long (68719476736 : Int64)), (.long z3)])) _
        refine XS.lcmp X0.here hx rfl (hb hby d1_42) rfl ?_
        show Steps p.tables e below (s₁.setTop (mkF m 43 #[.val (.ref r0)] [(.int (lcmpW z3 (68719476736 : Int64)))])) _
        exact k
      by_cases hc43_8 : z3 < (68719476736 : Int64)
      · rw [if_pos hc43_8]
        refine own_go (T' := s₁) (g' := (mkF m 46 #[.val (.ref r0)] [])) (fun t k => ?_) ?_
        · refine XS.ifNo X0.here hx rfl (hb hby d1_43) rfl ((if0 _ _).trans (tlt ((lw_lt _ _).mpr hc43_8)).2.1) ?_
          exact k
        refine own_go (T' := s₁) (g' := (mkF m 51 #[.val (.ref r0)] [(.int (1 : Int32))])) (fun t k => ?_) ?_
        · show Steps p.tables e below (s₁.setTop (mkF m 46 #[.val (.ref r0)] [])) t
          refine XS.iconst X0.here hx rfl (hb hby d1_46) ?_
          show Steps p.tables e below (s₁.setTop (mkF m 47 #[.val (.ref r0)] [(.int (1 : Int32))])) _
          refine XS.goto X0.here hx rfl (pc0 := 47) (pc' := 51) rfl (hb hby d1_47) (by decide) (by decide) ?_
          show Steps p.tables e below (s₁.setTop (mkF m 51 #[.val (.ref r0)] [(.int (1 : Int32))])) _
          exact k
        exact own_retN X0 hx hlk hret (by simp) (hb hby d1_51) (by decide) (by decide) N0 ⟨rfl, e0⟩
      · rw [if_neg hc43_8]
        refine own_go (T' := s₁) (g' := (mkF m 50 #[.val (.ref r0)] [])) (fun t k => ?_) ?_
        · refine XS.ifYes X0.here hx rfl (pc0 := 43) (pc' := 50) rfl (hb hby d1_43) rfl ((if0 _ _).trans (flt (mt (lw_lt _ _).mp hc43_8)).2.1) (by decide) (by decide) ?_
          exact k
        refine own_go (T' := s₁) (g' := (mkF m 51 #[.val (.ref r0)] [(.int (0 : Int32))])) (fun t k => ?_) ?_
        · show Steps p.tables e below (s₁.setTop (mkF m 50 #[.val (.ref r0)] [])) t
          refine XS.iconst X0.here hx rfl (hb hby d1_50) ?_
          show Steps p.tables e below (s₁.setTop (mkF m 51 #[.val (.ref r0)] [(.int (0 : Int32))])) _
          exact k
        exact own_retN X0 hx hlk hret (by simp) (hb hby d1_51) (by decide) (by decide) N0 ⟨rfl, e0⟩
  · rw [if_neg hc7_1]
    refine own_go (T' := s₁) (g' := (mkF m 10 #[.val (.ref r0)] [])) (fun t k => ?_) ?_
    · refine XS.ifNo X0.here hx rfl (hb hby d1_7) rfl ((if0 _ _).trans (feq (mt (lw_eq _ _).mp hc7_1)).1) ?_
      exact k
    refine own_go (T' := s₁) (g' := (mkF m 17 #[.val (.ref r0)] [(.int (lcmpW z4 (281474976645120 : Int64)))])) (fun t k => ?_) ?_
    · show Steps p.tables e below (s₁.setTop (mkF m 10 #[.val (.ref r0)] [])) t
      refine XS.aloadN X0.here hx rfl (hb hby d1_10) rfl rfl ?_
      show Steps p.tables e below (s₁.setTop (mkF m 11 #[.val (.ref r0)] [(.ref r0)])) _
      refine XS.iconst X0.here hx rfl (hb hby d1_11) ?_
      show Steps p.tables e below (s₁.setTop (mkF m 12 #[.val (.ref r0)] [(.int (4 : Int32)), (.ref r0)])) _
      refine own_ldJ X0 hx hZ e0 V_r0 (j := (4 : Int32)) (by decide) (v := (.long z4)) rfl (g := (mkF m 12 #[.val (.ref r0)] [(.int (4 : Int32)), (.ref r0)])) rfl rfl (hb hby d1_12) _ ?_
      show Steps p.tables e below (s₁.setTop (mkF m 13 #[.val (.ref r0)] [(.long z4)])) _
      refine X0.ldc2Long hx hown (mvT hZ (hw _ (List.mem_of_getElem? (i := 7) rfl))) (g := (mkF m 13 #[.val (.ref r0)] [(.long z4)])) rfl (hb hby d1_13) _ ?_
      show Steps p.tables e below (s₁.setTop (mkF m 16 #[.val (.ref r0)] [(.long (281474976645120 : Int64)), (.long z4)])) _
      refine XS.lcmp X0.here hx rfl (hb hby d1_16) rfl ?_
      show Steps p.tables e below (s₁.setTop (mkF m 17 #[.val (.ref r0)] [(.int (lcmpW z4 (281474976645120 : Int64)))])) _
      exact k
    by_cases hc17_9 : z4 < (281474976645120 : Int64)
    · rw [if_pos hc17_9]
      refine own_go (T' := s₁) (g' := (mkF m 20 #[.val (.ref r0)] [])) (fun t k => ?_) ?_
      · refine XS.ifNo X0.here hx rfl (hb hby d1_17) rfl ((if0 _ _).trans (tlt ((lw_lt _ _).mpr hc17_9)).2.1) ?_
        exact k
      refine own_go (T' := s₁) (g' := (mkF m 25 #[.val (.ref r0)] [(.int (1 : Int32))])) (fun t k => ?_) ?_
      · show Steps p.tables e below (s₁.setTop (mkF m 20 #[.val (.ref r0)] [])) t
        refine XS.iconst X0.here hx rfl (hb hby d1_20) ?_
        show Steps p.tables e below (s₁.setTop (mkF m 21 #[.val (.ref r0)] [(.int (1 : Int32))])) _
        refine XS.goto X0.here hx rfl (pc0 := 21) (pc' := 25) rfl (hb hby d1_21) (by decide) (by decide) ?_
        show Steps p.tables e below (s₁.setTop (mkF m 25 #[.val (.ref r0)] [(.int (1 : Int32))])) _
        exact k
      exact own_retN X0 hx hlk hret (by simp) (hb hby d1_25) (by decide) (by decide) N0 ⟨rfl, e0⟩
    · rw [if_neg hc17_9]
      refine own_go (T' := s₁) (g' := (mkF m 24 #[.val (.ref r0)] [])) (fun t k => ?_) ?_
      · refine XS.ifYes X0.here hx rfl (pc0 := 17) (pc' := 24) rfl (hb hby d1_17) rfl ((if0 _ _).trans (flt (mt (lw_lt _ _).mp hc17_9)).2.1) (by decide) (by decide) ?_
        exact k
      refine own_go (T' := s₁) (g' := (mkF m 25 #[.val (.ref r0)] [(.int (0 : Int32))])) (fun t k => ?_) ?_
      · show Steps p.tables e below (s₁.setTop (mkF m 24 #[.val (.ref r0)] [])) t
        refine XS.iconst X0.here hx rfl (hb hby d1_24) ?_
        show Steps p.tables e below (s₁.setTop (mkF m 25 #[.val (.ref r0)] [(.int (0 : Int32))])) _
        exact k
      exact own_retN X0 hx hlk hret (by simp) (hb hby d1_25) (by decide) (by decide) N0 ⟨rfl, e0⟩
def f2_0 (q0 : Int64) (q1 : Int64) (q2 : Int64) (q3 : Int64) (p4 : Int32) : Int64 := (if p4 = (0 : Int32) then q0 else (if p4 = (1 : Int32) then (0 : Int64) else (if p4 = (2 : Int32) then q2 else ((((q1.toUInt64 >>> ((12 : Int32) &&& 0x3f).toInt64.toUInt64).toInt64) ^^^ q3) &&& (4503599627370495 : Int64)))))
abbrev own_r2 : Room := { frames := 0, cells := 0, slots := 0, locals := 0 }
theorem d2_0 : decode method_3_code 0 = .ok (.iload 8, 2) := by decide +kernel
theorem d2_2 : decode method_3_code 2 = .ok (.ifCond .ne 5, 3) := by decide +kernel
theorem d2_5 : decode method_3_code 5 = .ok (.lload_n 0, 1) := by decide +kernel
theorem d2_6 : decode method_3_code 6 = .ok (.lreturn, 1) := by decide +kernel
theorem d2_7 : decode method_3_code 7 = .ok (.iload 8, 2) := by decide +kernel
theorem d2_9 : decode method_3_code 9 = .ok (.iconst 1, 1) := by decide +kernel
theorem d2_10 : decode method_3_code 10 = .ok (.if_icmp .ne 5, 3) := by decide +kernel
theorem d2_13 : decode method_3_code 13 = .ok (.lconst 0, 1) := by decide +kernel
theorem d2_14 : decode method_3_code 14 = .ok (.lreturn, 1) := by decide +kernel
theorem d2_15 : decode method_3_code 15 = .ok (.iload 8, 2) := by decide +kernel
theorem d2_17 : decode method_3_code 17 = .ok (.iconst 2, 1) := by decide +kernel
theorem d2_18 : decode method_3_code 18 = .ok (.if_icmp .ne 6, 3) := by decide +kernel
theorem d2_21 : decode method_3_code 21 = .ok (.lload 4, 2) := by decide +kernel
theorem d2_23 : decode method_3_code 23 = .ok (.lreturn, 1) := by decide +kernel
theorem d2_24 : decode method_3_code 24 = .ok (.lload_n 2, 1) := by decide +kernel
theorem d2_25 : decode method_3_code 25 = .ok (.bipush 12, 2) := by decide +kernel
theorem d2_27 : decode method_3_code 27 = .ok (.lushr, 1) := by decide +kernel
theorem d2_28 : decode method_3_code 28 = .ok (.lload 6, 2) := by decide +kernel
theorem d2_30 : decode method_3_code 30 = .ok (.lxor, 1) := by decide +kernel
theorem d2_31 : decode method_3_code 31 = .ok (.ldc2_w 7, 3) := by decide +kernel
theorem d2_34 : decode method_3_code 34 = .ok (.land, 1) := by decide +kernel
theorem d2_35 : decode method_3_code 35 = .ok (.lreturn, 1) := by decide +kernel
theorem ef_2 (m : MethodId) (q0 : Int64) (q1 : Int64) (q2 : Int64) (q3 : Int64) (p4 : Int32) : entryFrame m #[(.long q0), (.long q1), (.long q2), (.long q3), (.int p4)] 9 = mkF m 0 #[.val (.long q0), .second, .val (.long q1), .second, .val (.long q2), .second, .val (.long q3), .second, .val (.int p4)] [] := by first | (simp [entryFrame, mkF, argsToLocals, Value.category]; done) | rfl
set_option maxRecDepth 65536 in
set_option maxHeartbeats 40000000 in
theorem rm2 (l : Launch) (Z : State) (a0 : Array Value) (hw : ∀ d ∈ tables_1, d.before a0 Z = true) (q0 : Int64) (q1 : Int64) (q2 : Int64) (q3 : Int64) (p4 : Int32) (h0 : Heap) (n0 : Nat) : own_Con [] l Z (⟨"com/example/linkwell/linkwell/cards/P256FieldSubPinLaw", "limb", "(JJJJI)J"⟩ : MethodName) method_3_code 9 (some .long) own_r2 n0 #[(.long q0), (.long q1), (.long q2), (.long q3), (.int p4)] h0 (own_P (.long (f2_0 q0 q1 q2 q3 p4)) h0) := by
  refine own_body (plainFor_of_name (by first | (simp [plainName, overriddenIn]; done) | decide +kernel)) (fun m => mkF m 0 #[.val (.long q0), .second, .val (.long q1), .second, .val (.long q2), .second, .val (.long q3), .second, .val (.int p4)] []) (fun m => ef_2 m q0 q1 q2 q3 p4) ?_
  intro p e s m below meth c s₁ hx hby hml hown hnm hZ hret hlk X0 e0 N0
  show own_Ends p e below s n0 _ _ _ _ (own_P (.long (if p4 = (0 : Int32) then q0 else (if p4 = (1 : Int32) then (0 : Int64) else (if p4 = (2 : Int32) then q2 else ((((q1.toUInt64 >>> ((12 : Int32) &&& 0x3f).toInt64.toUInt64).toInt64) ^^^ q3) &&& (4503599627370495 : Int64)))))) h0)
  refine own_go (T' := s₁) (g' := (mkF m 2 #[.val (.long q0), .second, .val (.long q1), .second, .val (.long q2), .second, .val (.long q3), .second, .val (.int p4)] [(.int p4)])) (fun t k => ?_) ?_
  · show Steps p.tables e below (s₁.setTop (mkF m 0 #[.val (.long q0), .second, .val (.long q1), .second, .val (.long q2), .second, .val (.long q3), .second, .val (.int p4)] [])) t
    refine XS.iload X0.here hx rfl (hb hby d2_0) rfl ?_
    show Steps p.tables e below (s₁.setTop (mkF m 2 #[.val (.long q0), .second, .val (.long q1), .second, .val (.long q2), .second, .val (.long q3), .second, .val (.int p4)] [(.int p4)])) _
    exact k
  by_cases hc2_1 : p4 = (0 : Int32)
  · rw [if_pos hc2_1]
    refine own_go (T' := s₁) (g' := (mkF m 5 #[.val (.long q0), .second, .val (.long q1), .second, .val (.long q2), .second, .val (.long q3), .second, .val (.int p4)] [])) (fun t k => ?_) ?_
    · refine XS.ifNo X0.here hx rfl (hb hby d2_2) rfl ((if0 _ _).trans (teq hc2_1).2) ?_
      exact k
    refine own_go (T' := s₁) (g' := (mkF m 6 #[.val (.long q0), .second, .val (.long q1), .second, .val (.long q2), .second, .val (.long q3), .second, .val (.int p4)] [(.long q0)])) (fun t k => ?_) ?_
    · show Steps p.tables e below (s₁.setTop (mkF m 5 #[.val (.long q0), .second, .val (.long q1), .second, .val (.long q2), .second, .val (.long q3), .second, .val (.int p4)] [])) t
      refine XS.lloadN X0.here hx rfl (hb hby d2_5) rfl ?_
      show Steps p.tables e below (s₁.setTop (mkF m 6 #[.val (.long q0), .second, .val (.long q1), .second, .val (.long q2), .second, .val (.long q3), .second, .val (.int p4)] [(.long q0)])) _
      exact k
    exact own_retJ X0 hx hlk hret (hb hby d2_6) (by decide) (by decide) N0 ⟨rfl, e0⟩
  · rw [if_neg hc2_1]
    refine own_go (T' := s₁) (g' := (mkF m 7 #[.val (.long q0), .second, .val (.long q1), .second, .val (.long q2), .second, .val (.long q3), .second, .val (.int p4)] [])) (fun t k => ?_) ?_
    · refine XS.ifYes X0.here hx rfl (pc0 := 2) (pc' := 7) rfl (hb hby d2_2) rfl ((if0 _ _).trans (feq hc2_1).2) (by decide) (by decide) ?_
      exact k
    refine own_go (T' := s₁) (g' := (mkF m 10 #[.val (.long q0), .second, .val (.long q1), .second, .val (.long q2), .second, .val (.long q3), .second, .val (.int p4)] [(.int (1 : Int32)), (.int p4)])) (fun t k => ?_) ?_
    · show Steps p.tables e below (s₁.setTop (mkF m 7 #[.val (.long q0), .second, .val (.long q1), .second, .val (.long q2), .second, .val (.long q3), .second, .val (.int p4)] [])) t
      refine XS.iload X0.here hx rfl (hb hby d2_7) rfl ?_
      show Steps p.tables e below (s₁.setTop (mkF m 9 #[.val (.long q0), .second, .val (.long q1), .second, .val (.long q2), .second, .val (.long q3), .second, .val (.int p4)] [(.int p4)])) _
      refine XS.iconst X0.here hx rfl (hb hby d2_9) ?_
      show Steps p.tables e below (s₁.setTop (mkF m 10 #[.val (.long q0), .second, .val (.long q1), .second, .val (.long q2), .second, .val (.long q3), .second, .val (.int p4)] [(.int (1 : Int32)), (.int p4)])) _
      exact k
    by_cases hc10_2 : p4 = (1 : Int32)
    · rw [if_pos hc10_2]
      refine own_go (T' := s₁) (g' := (mkF m 13 #[.val (.long q0), .second, .val (.long q1), .second, .val (.long q2), .second, .val (.long q3), .second, .val (.int p4)] [])) (fun t k => ?_) ?_
      · refine XS.icmpNo X0.here hx rfl (hb hby d2_10) rfl (teq hc10_2).2 ?_
        exact k
      refine own_go (T' := s₁) (g' := (mkF m 14 #[.val (.long q0), .second, .val (.long q1), .second, .val (.long q2), .second, .val (.long q3), .second, .val (.int p4)] [(.long (0 : Int64))])) (fun t k => ?_) ?_
      · show Steps p.tables e below (s₁.setTop (mkF m 13 #[.val (.long q0), .second, .val (.long q1), .second, .val (.long q2), .second, .val (.long q3), .second, .val (.int p4)] [])) t
        refine XS.lconst X0.here hx rfl (hb hby d2_13) ?_
        show Steps p.tables e below (s₁.setTop (mkF m 14 #[.val (.long q0), .second, .val (.long q1), .second, .val (.long q2), .second, .val (.long q3), .second, .val (.int p4)] [(.long (0 : Int64))])) _
        exact k
      exact own_retJ X0 hx hlk hret (hb hby d2_14) (by decide) (by decide) N0 ⟨rfl, e0⟩
    · rw [if_neg hc10_2]
      refine own_go (T' := s₁) (g' := (mkF m 15 #[.val (.long q0), .second, .val (.long q1), .second, .val (.long q2), .second, .val (.long q3), .second, .val (.int p4)] [])) (fun t k => ?_) ?_
      · refine XS.icmpYes X0.here hx rfl (pc0 := 10) (pc' := 15) rfl (hb hby d2_10) rfl (feq hc10_2).2 (by decide) (by decide) ?_
        exact k
      refine own_go (T' := s₁) (g' := (mkF m 18 #[.val (.long q0), .second, .val (.long q1), .second, .val (.long q2), .second, .val (.long q3), .second, .val (.int p4)] [(.int (2 : Int32)), (.int p4)])) (fun t k => ?_) ?_
      · show Steps p.tables e below (s₁.setTop (mkF m 15 #[.val (.long q0), .second, .val (.long q1), .second, .val (.long q2), .second, .val (.long q3), .second, .val (.int p4)] [])) t
        refine XS.iload X0.here hx rfl (hb hby d2_15) rfl ?_
        show Steps p.tables e below (s₁.setTop (mkF m 17 #[.val (.long q0), .second, .val (.long q1), .second, .val (.long q2), .second, .val (.long q3), .second, .val (.int p4)] [(.int p4)])) _
        refine XS.iconst X0.here hx rfl (hb hby d2_17) ?_
        show Steps p.tables e below (s₁.setTop (mkF m 18 #[.val (.long q0), .second, .val (.long q1), .second, .val (.long q2), .second, .val (.long q3), .second, .val (.int p4)] [(.int (2 : Int32)), (.int p4)])) _
        exact k
      by_cases hc18_3 : p4 = (2 : Int32)
      · rw [if_pos hc18_3]
        refine own_go (T' := s₁) (g' := (mkF m 21 #[.val (.long q0), .second, .val (.long q1), .second, .val (.long q2), .second, .val (.long q3), .second, .val (.int p4)] [])) (fun t k => ?_) ?_
        · refine XS.icmpNo X0.here hx rfl (hb hby d2_18) rfl (teq hc18_3).2 ?_
          exact k
        refine own_go (T' := s₁) (g' := (mkF m 23 #[.val (.long q0), .second, .val (.long q1), .second, .val (.long q2), .second, .val (.long q3), .second, .val (.int p4)] [(.long q2)])) (fun t k => ?_) ?_
        · show Steps p.tables e below (s₁.setTop (mkF m 21 #[.val (.long q0), .second, .val (.long q1), .second, .val (.long q2), .second, .val (.long q3), .second, .val (.int p4)] [])) t
          refine XS.lload X0.here hx rfl (hb hby d2_21) rfl ?_
          show Steps p.tables e below (s₁.setTop (mkF m 23 #[.val (.long q0), .second, .val (.long q1), .second, .val (.long q2), .second, .val (.long q3), .second, .val (.int p4)] [(.long q2)])) _
          exact k
        exact own_retJ X0 hx hlk hret (hb hby d2_23) (by decide) (by decide) N0 ⟨rfl, e0⟩
      · rw [if_neg hc18_3]
        refine own_go (T' := s₁) (g' := (mkF m 24 #[.val (.long q0), .second, .val (.long q1), .second, .val (.long q2), .second, .val (.long q3), .second, .val (.int p4)] [])) (fun t k => ?_) ?_
        · refine XS.icmpYes X0.here hx rfl (pc0 := 18) (pc' := 24) rfl (hb hby d2_18) rfl (feq hc18_3).2 (by decide) (by decide) ?_
          exact k
        refine own_go (T' := s₁) (g' := (mkF m 35 #[.val (.long q0), .second, .val (.long q1), .second, .val (.long q2), .second, .val (.long q3), .second, .val (.int p4)] [(.long ((((q1.toUInt64 >>> ((12 : Int32) &&& 0x3f).toInt64.toUInt64).toInt64) ^^^ q3) &&& (4503599627370495 : Int64)))])) (fun t k => ?_) ?_
        · show Steps p.tables e below (s₁.setTop (mkF m 24 #[.val (.long q0), .second, .val (.long q1), .second, .val (.long q2), .second, .val (.long q3), .second, .val (.int p4)] [])) t
          refine XS.lloadN X0.here hx rfl (hb hby d2_24) rfl ?_
          show Steps p.tables e below (s₁.setTop (mkF m 25 #[.val (.long q0), .second, .val (.long q1), .second, .val (.long q2), .second, .val (.long q3), .second, .val (.int p4)] [(.long q1)])) _
          refine XS.bipush X0.here hx rfl (hb hby d2_25) ?_
          show Steps p.tables e below (s₁.setTop (mkF m 27 #[.val (.long q0), .second, .val (.long q1), .second, .val (.long q2), .second, .val (.long q3), .second, .val (.int p4)] [(.int (12 : Int32)), (.long q1)])) _
          refine XS.lushr X0.here hx rfl (hb hby d2_27) rfl ?_
          show Steps p.tables e below (s₁.setTop (mkF m 28 #[.val (.long q0), .second, .val (.long q1), .second, .val (.long q2), .second, .val (.long q3), .second, .val (.int p4)] [(.long ((q1.toUInt64 >>> ((12 : Int32) &&& 0x3f).toInt64.toUInt64).toInt64))])) _
          refine XS.lload X0.here hx rfl (hb hby d2_28) rfl ?_
          show Steps p.tables e below (s₁.setTop (mkF m 30 #[.val (.long q0), .second, .val (.long q1), .second, .val (.long q2), .second, .val (.long q3), .second, .val (.int p4)] [(.long q3), (.long ((q1.toUInt64 >>> ((12 : Int32) &&& 0x3f).toInt64.toUInt64).toInt64))])) _
          refine XS.lxor X0.here hx rfl (hb hby d2_30) rfl ?_
          show Steps p.tables e below (s₁.setTop (mkF m 31 #[.val (.long q0), .second, .val (.long q1), .second, .val (.long q2), .second, .val (.long q3), .second, .val (.int p4)] [(.long (((q1.toUInt64 >>> ((12 : Int32) &&& 0x3f).toInt64.toUInt64).toInt64) ^^^ q3))])) _
          refine X0.ldc2Long hx hown (mvT hZ (hw _ (List.mem_of_getElem? (i := 1) rfl))) (g := (mkF m 31 #[.val (.long q0), .second, .val (.long q1), .second, .val (.long q2), .second, .val (.long q3), .second, .val (.int p4)] [(.long (((q1.toUInt64 >>> ((12 : Int32) &&& 0x3f).toInt64.toUInt64).toInt64) ^^^ q3))])) rfl (hb hby d2_31) _ ?_
          show Steps p.tables e below (s₁.setTop (mkF m 34 #[.val (.long q0), .second, .val (.long q1), .second, .val (.long q2), .second, .val (.long q3), .second, .val (.int p4)] [(.long (4503599627370495 : Int64)), (.long (((q1.toUInt64 >>> ((12 : Int32) &&& 0x3f).toInt64.toUInt64).toInt64) ^^^ q3))])) _
          refine XS.land X0.here hx rfl (hb hby d2_34) rfl ?_
          show Steps p.tables e below (s₁.setTop (mkF m 35 #[.val (.long q0), .second, .val (.long q1), .second, .val (.long q2), .second, .val (.long q3), .second, .val (.int p4)] [(.long ((((q1.toUInt64 >>> ((12 : Int32) &&& 0x3f).toInt64.toUInt64).toInt64) ^^^ q3) &&& (4503599627370495 : Int64)))])) _
          exact k
        exact own_retJ X0 hx hlk hret (hb hby d2_35) (by decide) (by decide) N0 ⟨rfl, e0⟩
def f4_0 (z0 : Int64) (z1 : Int64) (z2 : Int64) (z3 : Int64) (z4 : Int64) : Int32 := (if z0 < (0 : Int64) then (0 : Int32) else (if (4503599627370495 : Int64) < z0 then (0 : Int32) else (if z1 < (0 : Int64) then (0 : Int32) else (if (4503599627370495 : Int64) < z1 then (0 : Int32) else (if z2 < (0 : Int64) then (0 : Int32) else (if (4503599627370495 : Int64) < z2 then (0 : Int32) else (if z3 < (0 : Int64) then (0 : Int32) else (if (4503599627370495 : Int64) < z3 then (0 : Int32) else (if z4 < (0 : Int64) then (0 : Int32) else (if (4503599627370495 : Int64) < z4 then (0 : Int32) else (1 : Int32)))))))))))
abbrev own_r4 : Room := { frames := 0, cells := 0, slots := 0, locals := 0 }
theorem d4_0 : decode method_4_code 0 = .ok (.aload_n 0, 1) := by decide +kernel
theorem d4_1 : decode method_4_code 1 = .ok (.iconst 0, 1) := by decide +kernel
theorem d4_2 : decode method_4_code 2 = .ok (.laload, 1) := by decide +kernel
theorem d4_3 : decode method_4_code 3 = .ok (.lconst 0, 1) := by decide +kernel
theorem d4_4 : decode method_4_code 4 = .ok (.lcmp, 1) := by decide +kernel
theorem d4_5 : decode method_4_code 5 = .ok (.ifCond .lt 89, 3) := by decide +kernel
theorem d4_94 : decode method_4_code 94 = .ok (.iconst 0, 1) := by decide +kernel
theorem d4_95 : decode method_4_code 95 = .ok (.ireturn, 1) := by decide +kernel
theorem d4_8 : decode method_4_code 8 = .ok (.aload_n 0, 1) := by decide +kernel
theorem d4_9 : decode method_4_code 9 = .ok (.iconst 0, 1) := by decide +kernel
theorem d4_10 : decode method_4_code 10 = .ok (.laload, 1) := by decide +kernel
theorem d4_11 : decode method_4_code 11 = .ok (.ldc2_w 7, 3) := by decide +kernel
theorem d4_14 : decode method_4_code 14 = .ok (.lcmp, 1) := by decide +kernel
theorem d4_15 : decode method_4_code 15 = .ok (.ifCond .gt 79, 3) := by decide +kernel
theorem d4_18 : decode method_4_code 18 = .ok (.aload_n 0, 1) := by decide +kernel
theorem d4_19 : decode method_4_code 19 = .ok (.iconst 1, 1) := by decide +kernel
theorem d4_20 : decode method_4_code 20 = .ok (.laload, 1) := by decide +kernel
theorem d4_21 : decode method_4_code 21 = .ok (.lconst 0, 1) := by decide +kernel
theorem d4_22 : decode method_4_code 22 = .ok (.lcmp, 1) := by decide +kernel
theorem d4_23 : decode method_4_code 23 = .ok (.ifCond .lt 71, 3) := by decide +kernel
theorem d4_26 : decode method_4_code 26 = .ok (.aload_n 0, 1) := by decide +kernel
theorem d4_27 : decode method_4_code 27 = .ok (.iconst 1, 1) := by decide +kernel
theorem d4_28 : decode method_4_code 28 = .ok (.laload, 1) := by decide +kernel
theorem d4_29 : decode method_4_code 29 = .ok (.ldc2_w 7, 3) := by decide +kernel
theorem d4_32 : decode method_4_code 32 = .ok (.lcmp, 1) := by decide +kernel
theorem d4_33 : decode method_4_code 33 = .ok (.ifCond .gt 61, 3) := by decide +kernel
theorem d4_36 : decode method_4_code 36 = .ok (.aload_n 0, 1) := by decide +kernel
theorem d4_37 : decode method_4_code 37 = .ok (.iconst 2, 1) := by decide +kernel
theorem d4_38 : decode method_4_code 38 = .ok (.laload, 1) := by decide +kernel
theorem d4_39 : decode method_4_code 39 = .ok (.lconst 0, 1) := by decide +kernel
theorem d4_40 : decode method_4_code 40 = .ok (.lcmp, 1) := by decide +kernel
theorem d4_41 : decode method_4_code 41 = .ok (.ifCond .lt 53, 3) := by decide +kernel
theorem d4_44 : decode method_4_code 44 = .ok (.aload_n 0, 1) := by decide +kernel
theorem d4_45 : decode method_4_code 45 = .ok (.iconst 2, 1) := by decide +kernel
theorem d4_46 : decode method_4_code 46 = .ok (.laload, 1) := by decide +kernel
theorem d4_47 : decode method_4_code 47 = .ok (.ldc2_w 7, 3) := by decide +kernel
theorem d4_50 : decode method_4_code 50 = .ok (.lcmp, 1) := by decide +kernel
theorem d4_51 : decode method_4_code 51 = .ok (.ifCond .gt 43, 3) := by decide +kernel
theorem d4_54 : decode method_4_code 54 = .ok (.aload_n 0, 1) := by decide +kernel
theorem d4_55 : decode method_4_code 55 = .ok (.iconst 3, 1) := by decide +kernel
theorem d4_56 : decode method_4_code 56 = .ok (.laload, 1) := by decide +kernel
theorem d4_57 : decode method_4_code 57 = .ok (.lconst 0, 1) := by decide +kernel
theorem d4_58 : decode method_4_code 58 = .ok (.lcmp, 1) := by decide +kernel
theorem d4_59 : decode method_4_code 59 = .ok (.ifCond .lt 35, 3) := by decide +kernel
theorem d4_62 : decode method_4_code 62 = .ok (.aload_n 0, 1) := by decide +kernel
theorem d4_63 : decode method_4_code 63 = .ok (.iconst 3, 1) := by decide +kernel
theorem d4_64 : decode method_4_code 64 = .ok (.laload, 1) := by decide +kernel
theorem d4_65 : decode method_4_code 65 = .ok (.ldc2_w 7, 3) := by decide +kernel
theorem d4_68 : decode method_4_code 68 = .ok (.lcmp, 1) := by decide +kernel
theorem d4_69 : decode method_4_code 69 = .ok (.ifCond .gt 25, 3) := by decide +kernel
theorem d4_72 : decode method_4_code 72 = .ok (.aload_n 0, 1) := by decide +kernel
theorem d4_73 : decode method_4_code 73 = .ok (.iconst 4, 1) := by decide +kernel
theorem d4_74 : decode method_4_code 74 = .ok (.laload, 1) := by decide +kernel
theorem d4_75 : decode method_4_code 75 = .ok (.lconst 0, 1) := by decide +kernel
theorem d4_76 : decode method_4_code 76 = .ok (.lcmp, 1) := by decide +kernel
theorem d4_77 : decode method_4_code 77 = .ok (.ifCond .lt 17, 3) := by decide +kernel
theorem d4_80 : decode method_4_code 80 = .ok (.aload_n 0, 1) := by decide +kernel
theorem d4_81 : decode method_4_code 81 = .ok (.iconst 4, 1) := by decide +kernel
theorem d4_82 : decode method_4_code 82 = .ok (.laload, 1) := by decide +kernel
theorem d4_83 : decode method_4_code 83 = .ok (.ldc2_w 7, 3) := by decide +kernel
theorem d4_86 : decode method_4_code 86 = .ok (.lcmp, 1) := by decide +kernel
theorem d4_87 : decode method_4_code 87 = .ok (.ifCond .gt 7, 3) := by decide +kernel
theorem d4_90 : decode method_4_code 90 = .ok (.iconst 1, 1) := by decide +kernel
theorem d4_91 : decode method_4_code 91 = .ok (.goto 4, 3) := by decide +kernel
theorem ef_4 (m : MethodId) (r0 : Addr) : entryFrame m #[(.ref r0)] 1 = mkF m 0 #[.val (.ref r0)] [] := by first | (simp [entryFrame, mkF, argsToLocals, Value.category]; done) | rfl
set_option maxRecDepth 65536 in
set_option maxHeartbeats 40000000 in
theorem rm4 (l : Launch) (Z : State) (a0 : Array Value) (hw : ∀ d ∈ tables_1, d.before a0 Z = true) (r0 : Addr) (k_r0 : ClassId) (z0 : Int64) (z1 : Int64) (z2 : Int64) (z3 : Int64) (z4 : Int64) (h0 : Heap) (n0 : Nat) (V_r0 : Arv Z h0 r0 k_r0 .long (5 : Int32) [(.long z0), (.long z1), (.long z2), (.long z3), (.long z4)] (.long (0 : Int64))) : own_Con [] l Z (⟨"com/example/linkwell/linkwell/cards/P256FieldSubPinLaw", "inRange", "([J)Z"⟩ : MethodName) method_4_code 1 (some .boolean) own_r4 n0 #[(.ref r0)] h0 (own_P (.int (f4_0 z0 z1 z2 z3 z4)) h0) := by
  refine own_body (plainFor_of_name (by first | (simp [plainName, overriddenIn]; done) | decide +kernel)) (fun m => mkF m 0 #[.val (.ref r0)] []) (fun m => ef_4 m r0) ?_
  intro p e s m below meth c s₁ hx hby hml hown hnm hZ hret hlk X0 e0 N0
  show own_Ends p e below s n0 _ _ _ _ (own_P (.int (if z0 < (0 : Int64) then (0 : Int32) else (if (4503599627370495 : Int64) < z0 then (0 : Int32) else (if z1 < (0 : Int64) then (0 : Int32) else (if (4503599627370495 : Int64) < z1 then (0 : Int32) else (if z2 < (0 : Int64) then (0 : Int32) else (if (4503599627370495 : Int64) < z2 then (0 : Int32) else (if z3 < (0 : Int64) then (0 : Int32) else (if (4503599627370495 : Int64) < z3 then (0 : Int32) else (if z4 < (0 : Int64) then (0 : Int32) else (if (4503599627370495 : Int64) < z4 then (0 : Int32) else (1 : Int32)))))))))))) h0)
  refine own_go (T' := s₁) (g' := (mkF m 5 #[.val (.ref r0)] [(.int (lcmpW z0 (0 : Int64)))])) (fun t k => ?_) ?_
  · show Steps p.tables e below (s₁.setTop (mkF m 0 #[.val (.ref r0)] [])) t
    refine XS.aloadN X0.here hx rfl (hb hby d4_0) rfl rfl ?_
    show Steps p.tables e below (s₁.setTop (mkF m 1 #[.val (.ref r0)] [(.ref r0)])) _
    refine XS.iconst X0.here hx rfl (hb hby d4_1) ?_
    show Steps p.tables e below (s₁.setTop (mkF m 2 #[.val (.ref r0)] [(.int (0 : Int32)), (.ref r0)])) _
    refine own_ldJ X0 hx hZ e0 V_r0 (j := (0 : Int32)) (by decide) (v := (.long z0)) rfl (g := (mkF m 2 #[.val (.ref r0)] [(.int (0 : Int32)), (.ref r0)])) rfl rfl (hb hby d4_2) _ ?_
    show Steps p.tables e below (s₁.setTop (mkF m 3 #[.val (.ref r0)] [(.long z0)])) _
    refine XS.lconst X0.here hx rfl (hb hby d4_3) ?_
    show Steps p.tables e below (s₁.setTop (mkF m 4 #[.val (.ref r0)] [(.long (0 : Int64)), (.long z0)])) _
    refine XS.lcmp X0.here hx rfl (hb hby d4_4) rfl ?_
    show Steps p.tables e below (s₁.setTop (mkF m 5 #[.val (.ref r0)] [(.int (lcmpW z0 (0 : Int64)))])) _
    exact k
  by_cases hc5_1 : z0 < (0 : Int64)
  · rw [if_pos hc5_1]
    refine own_go (T' := s₁) (g' := (mkF m 94 #[.val (.ref r0)] [])) (fun t k => ?_) ?_
    · refine XS.ifYes X0.here hx rfl (pc0 := 5) (pc' := 94) rfl (hb hby d4_5) rfl ((if0 _ _).trans (tlt ((lw_lt _ _).mpr hc5_1)).1) (by decide) (by decide) ?_
      exact k
    refine own_go (T' := s₁) (g' := (mkF m 95 #[.val (.ref r0)] [(.int (0 : Int32))])) (fun t k => ?_) ?_
    · show Steps p.tables e below (s₁.setTop (mkF m 94 #[.val (.ref r0)] [])) t
      refine XS.iconst X0.here hx rfl (hb hby d4_94) ?_
      show Steps p.tables e below (s₁.setTop (mkF m 95 #[.val (.ref r0)] [(.int (0 : Int32))])) _
      exact k
    exact own_retN X0 hx hlk hret (by simp) (hb hby d4_95) (by decide) (by decide) N0 ⟨rfl, e0⟩
  · rw [if_neg hc5_1]
    refine own_go (T' := s₁) (g' := (mkF m 8 #[.val (.ref r0)] [])) (fun t k => ?_) ?_
    · refine XS.ifNo X0.here hx rfl (hb hby d4_5) rfl ((if0 _ _).trans (flt (mt (lw_lt _ _).mp hc5_1)).1) ?_
      exact k
    refine own_go (T' := s₁) (g' := (mkF m 15 #[.val (.ref r0)] [(.int (lcmpW z0 (4503599627370495 : Int64)))])) (fun t k => ?_) ?_
    · show Steps p.tables e below (s₁.setTop (mkF m 8 #[.val (.ref r0)] [])) t
      refine XS.aloadN X0.here hx rfl (hb hby d4_8) rfl rfl ?_
      show Steps p.tables e below (s₁.setTop (mkF m 9 #[.val (.ref r0)] [(.ref r0)])) _
      refine XS.iconst X0.here hx rfl (hb hby d4_9) ?_
      show Steps p.tables e below (s₁.setTop (mkF m 10 #[.val (.ref r0)] [(.int (0 : Int32)), (.ref r0)])) _
      refine own_ldJ X0 hx hZ e0 V_r0 (j := (0 : Int32)) (by decide) (v := (.long z0)) rfl (g := (mkF m 10 #[.val (.ref r0)] [(.int (0 : Int32)), (.ref r0)])) rfl rfl (hb hby d4_10) _ ?_
      show Steps p.tables e below (s₁.setTop (mkF m 11 #[.val (.ref r0)] [(.long z0)])) _
      refine X0.ldc2Long hx hown (mvT hZ (hw _ (List.mem_of_getElem? (i := 1) rfl))) (g := (mkF m 11 #[.val (.ref r0)] [(.long z0)])) rfl (hb hby d4_11) _ ?_
      show Steps p.tables e below (s₁.setTop (mkF m 14 #[.val (.ref r0)] [(.long (4503599627370495 : Int64)), (.long z0)])) _
      refine XS.lcmp X0.here hx rfl (hb hby d4_14) rfl ?_
      show Steps p.tables e below (s₁.setTop (mkF m 15 #[.val (.ref r0)] [(.int (lcmpW z0 (4503599627370495 : Int64)))])) _
      exact k
    by_cases hc15_2 : (4503599627370495 : Int64) < z0
    · rw [if_pos hc15_2]
      refine own_go (T' := s₁) (g' := (mkF m 94 #[.val (.ref r0)] [])) (fun t k => ?_) ?_
      · refine XS.ifYes X0.here hx rfl (pc0 := 15) (pc' := 94) rfl (hb hby d4_15) rfl ((if0 _ _).trans (tlt ((lw_gt _ _).mpr hc15_2)).2.2.1) (by decide) (by decide) ?_
        exact k
      refine own_go (T' := s₁) (g' := (mkF m 95 #[.val (.ref r0)] [(.int (0 : Int32))])) (fun t k => ?_) ?_
      · show Steps p.tables e below (s₁.setTop (mkF m 94 #[.val (.ref r0)] [])) t
        refine XS.iconst X0.here hx rfl (hb hby d4_94) ?_
        show Steps p.tables e below (s₁.setTop (mkF m 95 #[.val (.ref r0)] [(.int (0 : Int32))])) _
        exact k
      exact own_retN X0 hx hlk hret (by simp) (hb hby d4_95) (by decide) (by decide) N0 ⟨rfl, e0⟩
    · rw [if_neg hc15_2]
      refine own_go (T' := s₁) (g' := (mkF m 18 #[.val (.ref r0)] [])) (fun t k => ?_) ?_
      · refine XS.ifNo X0.here hx rfl (hb hby d4_15) rfl ((if0 _ _).trans (flt (mt (lw_gt _ _).mp hc15_2)).2.2.1) ?_
        exact k
      refine own_go (T' := s₁) (g' := (mkF m 23 #[.val (.ref r0)] [(.int (lcmpW z1 (0 : Int64)))])) (fun t k => ?_) ?_
      · show Steps p.tables e below (s₁.setTop (mkF m 18 #[.val (.ref r0)] [])) t
        refine XS.aloadN X0.here hx rfl (hb hby d4_18) rfl rfl ?_
        show Steps p.tables e below (s₁.setTop (mkF m 19 #[.val (.ref r0)] [(.ref r0)])) _
        refine XS.iconst X0.here hx rfl (hb hby d4_19) ?_
        show Steps p.tables e below (s₁.setTop (mkF m 20 #[.val (.ref r0)] [(.int (1 : Int32)), (.ref r0)])) _
        refine own_ldJ X0 hx hZ e0 V_r0 (j := (1 : Int32)) (by decide) (v := (.long z1)) rfl (g := (mkF m 20 #[.val (.ref r0)] [(.int (1 : Int32)), (.ref r0)])) rfl rfl (hb hby d4_20) _ ?_
        show Steps p.tables e below (s₁.setTop (mkF m 21 #[.val (.ref r0)] [(.long z1)])) _
        refine XS.lconst X0.here hx rfl (hb hby d4_21) ?_
        show Steps p.tables e below (s₁.setTop (mkF m 22 #[.val (.ref r0)] [(.long (0 : Int64)), (.long z1)])) _
        refine XS.lcmp X0.here hx rfl (hb hby d4_22) rfl ?_
        show Steps p.tables e below (s₁.setTop (mkF m 23 #[.val (.ref r0)] [(.int (lcmpW z1 (0 : Int64)))])) _
        exact k
      by_cases hc23_3 : z1 < (0 : Int64)
      · rw [if_pos hc23_3]
        refine own_go (T' := s₁) (g' := (mkF m 94 #[.val (.ref r0)] [])) (fun t k => ?_) ?_
        · refine XS.ifYes X0.here hx rfl (pc0 := 23) (pc' := 94) rfl (hb hby d4_23) rfl ((if0 _ _).trans (tlt ((lw_lt _ _).mpr hc23_3)).1) (by decide) (by decide) ?_
          exact k
        refine own_go (T' := s₁) (g' := (mkF m 95 #[.val (.ref r0)] [(.int (0 : Int32))])) (fun t k => ?_) ?_
        · show Steps p.tables e below (s₁.setTop (mkF m 94 #[.val (.ref r0)] [])) t
          refine XS.iconst X0.here hx rfl (hb hby d4_94) ?_
          show Steps p.tables e below (s₁.setTop (mkF m 95 #[.val (.ref r0)] [(.int (0 : Int32))])) _
          exact k
        exact own_retN X0 hx hlk hret (by simp) (hb hby d4_95) (by decide) (by decide) N0 ⟨rfl, e0⟩
      · rw [if_neg hc23_3]
        refine own_go (T' := s₁) (g' := (mkF m 26 #[.val (.ref r0)] [])) (fun t k => ?_) ?_
        · refine XS.ifNo X0.here hx rfl (hb hby d4_23) rfl ((if0 _ _).trans (flt (mt (lw_lt _ _).mp hc23_3)).1) ?_
          exact k
        refine own_go (T' := s₁) (g' := (mkF m 33 #[.val (.ref r0)] [(.int (lcmpW z1 (4503599627370495 : Int64)))])) (fun t k => ?_) ?_
        · show Steps p.tables e below (s₁.setTop (mkF m 26 #[.val (.ref r0)] [])) t
          refine XS.aloadN X0.here hx rfl (hb hby d4_26) rfl rfl ?_
          show Steps p.tables e below (s₁.setTop (mkF m 27 #[.val (.ref r0)] [(.ref r0)])) _
          refine XS.iconst X0.here hx rfl (hb hby d4_27) ?_
          show Steps p.tables e below (s₁.setTop (mkF m 28 #[.val (.ref r0)] [(.int (1 : Int32)), (.ref r0)])) _
          refine own_ldJ X0 hx hZ e0 V_r0 (j := (1 : Int32)) (by decide) (v := (.long z1)) rfl (g := (mkF m 28 #[.val (.ref r0)] [(.int (1 : Int32)), (.ref r0)])) rfl rfl (hb hby d4_28) _ ?_
          show Steps p.tables e below (s₁.setTop (mkF m 29 #[.val (.ref r0)] [(.long z1)])) _
          refine X0.ldc2Long hx hown (mvT hZ (hw _ (List.mem_of_getElem? (i := 1) rfl))) (g := (mkF m 29 #[.val (.ref r0)] [(.long z1)])) rfl (hb hby d4_29) _ ?_
          show Steps p.tables e below (s₁.setTop (mkF m 32 #[.val (.ref r0)] [(.long (4503599627370495 : Int64)), (.long z1)])) _
          refine XS.lcmp X0.here hx rfl (hb hby d4_32) rfl ?_
          show Steps p.tables e below (s₁.setTop (mkF m 33 #[.val (.ref r0)] [(.int (lcmpW z1 (4503599627370495 : Int64)))])) _
          exact k
        by_cases hc33_4 : (4503599627370495 : Int64) < z1
        · rw [if_pos hc33_4]
          refine own_go (T' := s₁) (g' := (mkF m 94 #[.val (.ref r0)] [])) (fun t k => ?_) ?_
          · refine XS.ifYes X0.here hx rfl (pc0 := 33) (pc' := 94) rfl (hb hby d4_33) rfl ((if0 _ _).trans (tlt ((lw_gt _ _).mpr hc33_4)).2.2.1) (by decide) (by decide) ?_
            exact k
          refine own_go (T' := s₁) (g' := (mkF m 95 #[.val (.ref r0)] [(.int (0 : Int32))])) (fun t k => ?_) ?_
          · show Steps p.tables e below (s₁.setTop (mkF m 94 #[.val (.ref r0)] [])) t
            refine XS.iconst X0.here hx rfl (hb hby d4_94) ?_
            show Steps p.tables e below (s₁.setTop (mkF m 95 #[.val (.ref r0)] [(.int (0 : Int32))])) _
            exact k
          exact own_retN X0 hx hlk hret (by simp) (hb hby d4_95) (by decide) (by decide) N0 ⟨rfl, e0⟩
        · rw [if_neg hc33_4]
          refine own_go (T' := s₁) (g' := (mkF m 36 #[.val (.ref r0)] [])) (fun t k => ?_) ?_
          · refine XS.ifNo X0.here hx rfl (hb hby d4_33) rfl ((if0 _ _).trans (flt (mt (lw_gt _ _).mp hc33_4)).2.2.1) ?_
            exact k
          refine own_go (T' := s₁) (g' := (mkF m 41 #[.val (.ref r0)] [(.int (lcmpW z2 (0 : Int64)))])) (fun t k => ?_) ?_
          · show Steps p.tables e below (s₁.setTop (mkF m 36 #[.val (.ref r0)] [])) t
            refine XS.aloadN X0.here hx rfl (hb hby d4_36) rfl rfl ?_
            show Steps p.tables e below (s₁.setTop (mkF m 37 #[.val (.ref r0)] [(.ref r0)])) _
            refine XS.iconst X0.here hx rfl (hb hby d4_37) ?_
            show Steps p.tables e below (s₁.setTop (mkF m 38 #[.val (.ref r0)] [(.int (2 : Int32)), (.ref r0)])) _
            refine own_ldJ X0 hx hZ e0 V_r0 (j := (2 : Int32)) (by decide) (v := (.long z2)) rfl (g := (mkF m 38 #[.val (.ref r0)] [(.int (2 : Int32)), (.ref r0)])) rfl rfl (hb hby d4_38) _ ?_
            show Steps p.tables e below (s₁.setTop (mkF m 39 #[.val (.ref r0)] [(.long z2)])) _
            refine XS.lconst X0.here hx rfl (hb hby d4_39) ?_
            show Steps p.tables e below (s₁.setTop (mkF m 40 #[.val (.ref r0)] [(.long (0 : Int64)), (.long z2)])) _
            refine XS.lcmp X0.here hx rfl (hb hby d4_40) rfl ?_
            show Steps p.tables e below (s₁.setTop (mkF m 41 #[.val (.ref r0)] [(.int (lcmpW z2 (0 : Int64)))])) _
            exact k
          by_cases hc41_5 : z2 < (0 : Int64)
          · rw [if_pos hc41_5]
            refine own_go (T' := s₁) (g' := (mkF m 94 #[.val (.ref r0)] [])) (fun t k => ?_) ?_
            · refine XS.ifYes X0.here hx rfl (pc0 := 41) (pc' := 94) rfl (hb hby d4_41) rfl ((if0 _ _).trans (tlt ((lw_lt _ _).mpr hc41_5)).1) (by decide) (by decide) ?_
              exact k
            refine own_go (T' := s₁) (g' := (mkF m 95 #[.val (.ref r0)] [(.int (0 : Int32))])) (fun t k => ?_) ?_
            · show Steps p.tables e below (s₁.setTop (mkF m 94 #[.val (.ref r0)] [])) t
              refine XS.iconst X0.here hx rfl (hb hby d4_94) ?_
              show Steps p.tables e below (s₁.setTop (mkF m 95 #[.val (.ref r0)] [(.int (0 : Int32))])) _
              exact k
            exact own_retN X0 hx hlk hret (by simp) (hb hby d4_95) (by decide) (by decide) N0 ⟨rfl, e0⟩
          · rw [if_neg hc41_5]
            refine own_go (T' := s₁) (g' := (mkF m 44 #[.val (.ref r0)] [])) (fun t k => ?_) ?_
            · refine XS.ifNo X0.here hx rfl (hb hby d4_41) rfl ((if0 _ _).trans (flt (mt (lw_lt _ _).mp hc41_5)).1) ?_
              exact k
            refine own_go (T' := s₁) (g' := (mkF m 51 #[.val (.ref r0)] [(.int (lcmpW z2 (4503599627370495 : Int64)))])) (fun t k => ?_) ?_
            · show Steps p.tables e below (s₁.setTop (mkF m 44 #[.val (.ref r0)] [])) t
              refine XS.aloadN X0.here hx rfl (hb hby d4_44) rfl rfl ?_
              show Steps p.tables e below (s₁.setTop (mkF m 45 #[.val (.ref r0)] [(.ref r0)])) _
              refine XS.iconst X0.here hx rfl (hb hby d4_45) ?_
              show Steps p.tables e below (s₁.setTop (mkF m 46 #[.val (.ref r0)] [(.int (2 : Int32)), (.ref r0)])) _
              refine own_ldJ X0 hx hZ e0 V_r0 (j := (2 : Int32)) (by decide) (v := (.long z2)) rfl (g := (mkF m 46 #[.val (.ref r0)] [(.int (2 : Int32)), (.ref r0)])) rfl rfl (hb hby d4_46) _ ?_
              show Steps p.tables e below (s₁.setTop (mkF m 47 #[.val (.ref r0)] [(.long z2)])) _
              refine X0.ldc2Long hx hown (mvT hZ (hw _ (List.mem_of_getElem? (i := 1) rfl))) (g := (mkF m 47 #[.val (.ref r0)] [(.long z2)])) rfl (hb hby d4_47) _ ?_
              show Steps p.tables e below (s₁.setTop (mkF m 50 #[.val (.ref r0)] [(.long (4503599627370495 : Int64)), (.long z2)])) _
              refine XS.lcmp X0.here hx rfl (hb hby d4_50) rfl ?_
              show Steps p.tables e below (s₁.setTop (mkF m 51 #[.val (.ref r0)] [(.int (lcmpW z2 (4503599627370495 : Int64)))])) _
              exact k
            by_cases hc51_6 : (4503599627370495 : Int64) < z2
            · rw [if_pos hc51_6]
              refine own_go (T' := s₁) (g' := (mkF m 94 #[.val (.ref r0)] [])) (fun t k => ?_) ?_
              · refine XS.ifYes X0.here hx rfl (pc0 := 51) (pc' := 94) rfl (hb hby d4_51) rfl ((if0 _ _).trans (tlt ((lw_gt _ _).mpr hc51_6)).2.2.1) (by decide) (by decide) ?_
                exact k
              refine own_go (T' := s₁) (g' := (mkF m 95 #[.val (.ref r0)] [(.int (0 : Int32))])) (fun t k => ?_) ?_
              · show Steps p.tables e below (s₁.setTop (mkF m 94 #[.val (.ref r0)] [])) t
                refine XS.iconst X0.here hx rfl (hb hby d4_94) ?_
                show Steps p.tables e below (s₁.setTop (mkF m 95 #[.val (.ref r0)] [(.int (0 : Int32))])) _
                exact k
              exact own_retN X0 hx hlk hret (by simp) (hb hby d4_95) (by decide) (by decide) N0 ⟨rfl, e0⟩
            · rw [if_neg hc51_6]
              refine own_go (T' := s₁) (g' := (mkF m 54 #[.val (.ref r0)] [])) (fun t k => ?_) ?_
              · refine XS.ifNo X0.here hx rfl (hb hby d4_51) rfl ((if0 _ _).trans (flt (mt (lw_gt _ _).mp hc51_6)).2.2.1) ?_
                exact k
              refine own_go (T' := s₁) (g' := (mkF m 59 #[.val (.ref r0)] [(.int (lcmpW z3 (0 : Int64)))])) (fun t k => ?_) ?_
              · show Steps p.tables e below (s₁.setTop (mkF m 54 #[.val (.ref r0)] [])) t
                refine XS.aloadN X0.here hx rfl (hb hby d4_54) rfl rfl ?_
                show Steps p.tables e below (s₁.setTop (mkF m 55 #[.val (.ref r0)] [(.ref r0)])) _
                refine XS.iconst X0.here hx rfl (hb hby d4_55) ?_
                show Steps p.tables e below (s₁.setTop (mkF m 56 #[.val (.ref r0)] [(.int (3 : Int32)), (.ref r0)])) _
                refine own_ldJ X0 hx hZ e0 V_r0 (j := (3 : Int32)) (by decide) (v := (.long z3)) rfl (g := (mkF m 56 #[.val (.ref r0)] [(.int (3 : Int32)), (.ref r0)])) rfl rfl (hb hby d4_56) _ ?_
                show Steps p.tables e below (s₁.setTop (mkF m 57 #[.val (.ref r0)] [(.long z3)])) _
                refine XS.lconst X0.here hx rfl (hb hby d4_57) ?_
                show Steps p.tables e below (s₁.setTop (mkF m 58 #[.val (.ref r0)] [(.long (0 : Int64)), (.long z3)])) _
                refine XS.lcmp X0.here hx rfl (hb hby d4_58) rfl ?_
                show Steps p.tables e below (s₁.setTop (mkF m 59 #[.val (.ref r0)] [(.int (lcmpW z3 (0 : Int64)))])) _
                exact k
              by_cases hc59_7 : z3 < (0 : Int64)
              · rw [if_pos hc59_7]
                refine own_go (T' := s₁) (g' := (mkF m 94 #[.val (.ref r0)] [])) (fun t k => ?_) ?_
                · refine XS.ifYes X0.here hx rfl (pc0 := 59) (pc' := 94) rfl (hb hby d4_59) rfl ((if0 _ _).trans (tlt ((lw_lt _ _).mpr hc59_7)).1) (by decide) (by decide) ?_
                  exact k
                refine own_go (T' := s₁) (g' := (mkF m 95 #[.val (.ref r0)] [(.int (0 : Int32))])) (fun t k => ?_) ?_
                · show Steps p.tables e below (s₁.setTop (mkF m 94 #[.val (.ref r0)] [])) t
                  refine XS.iconst X0.here hx rfl (hb hby d4_94) ?_
                  show Steps p.tables e below (s₁.setTop (mkF m 95 #[.val (.ref r0)] [(.int (0 : Int32))])) _
                  exact k
                exact own_retN X0 hx hlk hret (by simp) (hb hby d4_95) (by decide) (by decide) N0 ⟨rfl, e0⟩
              · rw [if_neg hc59_7]
                refine own_go (T' := s₁) (g' := (mkF m 62 #[.val (.ref r0)] [])) (fun t k => ?_) ?_
                · refine XS.ifNo X0.here hx rfl (hb hby d4_59) rfl ((if0 _ _).trans (flt (mt (lw_lt _ _).mp hc59_7)).1) ?_
                  exact k
                refine own_go (T' := s₁) (g' := (mkF m 69 #[.val (.ref r0)] [(.int (lcmpW z3 (4503599627370495 : Int64)))])) (fun t k => ?_) ?_
                · show Steps p.tables e below (s₁.setTop (mkF m 62 #[.val (.ref r0)] [])) t
                  refine XS.aloadN X0.here hx rfl (hb hby d4_62) rfl rfl ?_
                  show Steps p.tables e below (s₁.setTop (mkF m 63 #[.val (.ref r0)] [(.ref r0)])) _
                  refine XS.iconst X0.here hx rfl (hb hby d4_63) ?_
                  show Steps p.tables e below (s₁.setTop (mkF m 64 #[.val (.ref r0)] [(.int (3 : Int32)), (.ref r0)])) _
                  refine own_ldJ X0 hx hZ e0 V_r0 (j := (3 : Int32)) (by decide) (v := (.long z3)) rfl (g := (mkF m 64 #[.val (.ref r0)] [(.int (3 : Int32)), (.ref r0)])) rfl rfl (hb hby d4_64) _ ?_
                  show Steps p.tables e below (s₁.setTop (mkF m 65 #[.val (.ref r0)] [(.long z3)])) _
                  refine X0.ldc2Long hx hown (mvT hZ (hw _ (List.mem_of_getElem? (i := 1) rfl))) (g := (mkF m 65 #[.val (.ref r0)] [(.long z3)])) rfl (hb hby d4_65) _ ?_
                  show Steps p.tables e below (s₁.setTop (mkF m 68 #[.val (.ref r0)] [(.long (4503599627370495 : Int64)), (.long z3)])) _
                  refine XS.lcmp X0.here hx rfl (hb hby d4_68) rfl ?_
                  show Steps p.tables e below (s₁.setTop (mkF m 69 #[.val (.ref r0)] [(.int (lcmpW z3 (4503599627370495 : Int64)))])) _
                  exact k
                by_cases hc69_8 : (4503599627370495 : Int64) < z3
                · rw [if_pos hc69_8]
                  refine own_go (T' := s₁) (g' := (mkF m 94 #[.val (.ref r0)] [])) (fun t k => ?_) ?_
                  · refine XS.ifYes X0.here hx rfl (pc0 := 69) (pc' := 94) rfl (hb hby d4_69) rfl ((if0 _ _).trans (tlt ((lw_gt _ _).mpr hc69_8)).2.2.1) (by decide) (by decide) ?_
                    exact k
                  refine own_go (T' := s₁) (g' := (mkF m 95 #[.val (.ref r0)] [(.int (0 : Int32))])) (fun t k => ?_) ?_
                  · show Steps p.tables e below (s₁.setTop (mkF m 94 #[.val (.ref r0)] [])) t
                    refine XS.iconst X0.here hx rfl (hb hby d4_94) ?_
                    show Steps p.tables e below (s₁.setTop (mkF m 95 #[.val (.ref r0)] [(.int (0 : Int32))])) _
                    exact k
                  exact own_retN X0 hx hlk hret (by simp) (hb hby d4_95) (by decide) (by decide) N0 ⟨rfl, e0⟩
                · rw [if_neg hc69_8]
                  refine own_go (T' := s₁) (g' := (mkF m 72 #[.val (.ref r0)] [])) (fun t k => ?_) ?_
                  · refine XS.ifNo X0.here hx rfl (hb hby d4_69) rfl ((if0 _ _).trans (flt (mt (lw_gt _ _).mp hc69_8)).2.2.1) ?_
                    exact k
                  refine own_go (T' := s₁) (g' := (mkF m 77 #[.val (.ref r0)] [(.int (lcmpW z4 (0 : Int64)))])) (fun t k => ?_) ?_
                  · show Steps p.tables e below (s₁.setTop (mkF m 72 #[.val (.ref r0)] [])) t
                    refine XS.aloadN X0.here hx rfl (hb hby d4_72) rfl rfl ?_
                    show Steps p.tables e below (s₁.setTop (mkF m 73 #[.val (.ref r0)] [(.ref r0)])) _
                    refine XS.iconst X0.here hx rfl (hb hby d4_73) ?_
                    show Steps p.tables e below (s₁.setTop (mkF m 74 #[.val (.ref r0)] [(.int (4 : Int32)), (.ref r0)])) _
                    refine own_ldJ X0 hx hZ e0 V_r0 (j := (4 : Int32)) (by decide) (v := (.long z4)) rfl (g := (mkF m 74 #[.val (.ref r0)] [(.int (4 : Int32)), (.ref r0)])) rfl rfl (hb hby d4_74) _ ?_
                    show Steps p.tables e below (s₁.setTop (mkF m 75 #[.val (.ref r0)] [(.long z4)])) _
                    refine XS.lconst X0.here hx rfl (hb hby d4_75) ?_
                    show Steps p.tables e below (s₁.setTop (mkF m 76 #[.val (.ref r0)] [(.long (0 : Int64)), (.long z4)])) _
                    refine XS.lcmp X0.here hx rfl (hb hby d4_76) rfl ?_
                    show Steps p.tables e below (s₁.setTop (mkF m 77 #[.val (.ref r0)] [(.int (lcmpW z4 (0 : Int64)))])) _
                    exact k
                  by_cases hc77_9 : z4 < (0 : Int64)
                  · rw [if_pos hc77_9]
                    refine own_go (T' := s₁) (g' := (mkF m 94 #[.val (.ref r0)] [])) (fun t k => ?_) ?_
                    · refine XS.ifYes X0.here hx rfl (pc0 := 77) (pc' := 94) rfl (hb hby d4_77) rfl ((if0 _ _).trans (tlt ((lw_lt _ _).mpr hc77_9)).1) (by decide) (by decide) ?_
                      exact k
                    refine own_go (T' := s₁) (g' := (mkF m 95 #[.val (.ref r0)] [(.int (0 : Int32))])) (fun t k => ?_) ?_
                    · show Steps p.tables e below (s₁.setTop (mkF m 94 #[.val (.ref r0)] [])) t
                      refine XS.iconst X0.here hx rfl (hb hby d4_94) ?_
                      show Steps p.tables e below (s₁.setTop (mkF m 95 #[.val (.ref r0)] [(.int (0 : Int32))])) _
                      exact k
                    exact own_retN X0 hx hlk hret (by simp) (hb hby d4_95) (by decide) (by decide) N0 ⟨rfl, e0⟩
                  · rw [if_neg hc77_9]
                    refine own_go (T' := s₁) (g' := (mkF m 80 #[.val (.ref r0)] [])) (fun t k => ?_) ?_
                    · refine XS.ifNo X0.here hx rfl (hb hby d4_77) rfl ((if0 _ _).trans (flt (mt (lw_lt _ _).mp hc77_9)).1) ?_
                      exact k
                    refine own_go (T' := s₁) (g' := (mkF m 87 #[.val (.ref r0)] [(.int (lcmpW z4 (4503599627370495 : Int64)))])) (fun t k => ?_) ?_
                    · show Steps p.tables e below (s₁.setTop (mkF m 80 #[.val (.ref r0)] [])) t
                      refine XS.aloadN X0.here hx rfl (hb hby d4_80) rfl rfl ?_
                      show Steps p.tables e below (s₁.setTop (mkF m 81 #[.val (.ref r0)] [(.ref r0)])) _
                      refine XS.iconst X0.here hx rfl (hb hby d4_81) ?_
                      show Steps p.tables e below (s₁.setTop (mkF m 82 #[.val (.ref r0)] [(.int (4 : Int32)), (.ref r0)])) _
                      refine own_ldJ X0 hx hZ e0 V_r0 (j := (4 : Int32)) (by decide) (v := (.long z4)) rfl (g := (mkF m 82 #[.val (.ref r0)] [(.int (4 : Int32)), (.ref r0)])) rfl rfl (hb hby d4_82) _ ?_
                      show Steps p.tables e below (s₁.setTop (mkF m 83 #[.val (.ref r0)] [(.long z4)])) _
                      refine X0.ldc2Long hx hown (mvT hZ (hw _ (List.mem_of_getElem? (i := 1) rfl))) (g := (mkF m 83 #[.val (.ref r0)] [(.long z4)])) rfl (hb hby d4_83) _ ?_
                      show Steps p.tables e below (s₁.setTop (mkF m 86 #[.val (.ref r0)] [(.long (4503599627370495 : Int64)), (.long z4)])) _
                      refine XS.lcmp X0.here hx rfl (hb hby d4_86) rfl ?_
                      show Steps p.tables e below (s₁.setTop (mkF m 87 #[.val (.ref r0)] [(.int (lcmpW z4 (4503599627370495 : Int64)))])) _
                      exact k
                    by_cases hc87_10 : (4503599627370495 : Int64) < z4
                    · rw [if_pos hc87_10]
                      refine own_go (T' := s₁) (g' := (mkF m 94 #[.val (.ref r0)] [])) (fun t k => ?_) ?_
                      · refine XS.ifYes X0.here hx rfl (pc0 := 87) (pc' := 94) rfl (hb hby d4_87) rfl ((if0 _ _).trans (tlt ((lw_gt _ _).mpr hc87_10)).2.2.1) (by decide) (by decide) ?_
                        exact k
                      refine own_go (T' := s₁) (g' := (mkF m 95 #[.val (.ref r0)] [(.int (0 : Int32))])) (fun t k => ?_) ?_
                      · show Steps p.tables e below (s₁.setTop (mkF m 94 #[.val (.ref r0)] [])) t
                        refine XS.iconst X0.here hx rfl (hb hby d4_94) ?_
                        show Steps p.tables e below (s₁.setTop (mkF m 95 #[.val (.ref r0)] [(.int (0 : Int32))])) _
                        exact k
                      exact own_retN X0 hx hlk hret (by simp) (hb hby d4_95) (by decide) (by decide) N0 ⟨rfl, e0⟩
                    · rw [if_neg hc87_10]
                      refine own_go (T' := s₁) (g' := (mkF m 90 #[.val (.ref r0)] [])) (fun t k => ?_) ?_
                      · refine XS.ifNo X0.here hx rfl (hb hby d4_87) rfl ((if0 _ _).trans (flt (mt (lw_gt _ _).mp hc87_10)).2.2.1) ?_
                        exact k
                      refine own_go (T' := s₁) (g' := (mkF m 95 #[.val (.ref r0)] [(.int (1 : Int32))])) (fun t k => ?_) ?_
                      · show Steps p.tables e below (s₁.setTop (mkF m 90 #[.val (.ref r0)] [])) t
                        refine XS.iconst X0.here hx rfl (hb hby d4_90) ?_
                        show Steps p.tables e below (s₁.setTop (mkF m 91 #[.val (.ref r0)] [(.int (1 : Int32))])) _
                        refine XS.goto X0.here hx rfl (pc0 := 91) (pc' := 95) rfl (hb hby d4_91) (by decide) (by decide) ?_
                        show Steps p.tables e below (s₁.setTop (mkF m 95 #[.val (.ref r0)] [(.int (1 : Int32))])) _
                        exact k
                      exact own_retN X0 hx hlk hret (by simp) (hb hby d4_95) (by decide) (by decide) N0 ⟨rfl, e0⟩
def f7_0 (z0 : Int64) (z1 : Int64) (z2 : Int64) (z3 : Int64) (z4 : Int64) (y0 : Int64) (y1 : Int64) (y2 : Int64) (y3 : Int64) (y4 : Int64) : Int32 := (if (((((z0 ^^^ y0) ||| (z1 ^^^ y1)) ||| (z2 ^^^ y2)) ||| (z3 ^^^ y3)) ||| (z4 ^^^ y4)) = (0 : Int64) then (1 : Int32) else (0 : Int32))
abbrev own_r7 : Room := { frames := 0, cells := 0, slots := 0, locals := 0 }
theorem d7_0 : decode prog_11_method_9_code 0 = .ok (.aload_n 0, 1) := by decide +kernel
theorem d7_1 : decode prog_11_method_9_code 1 = .ok (.iconst 0, 1) := by decide +kernel
theorem d7_2 : decode prog_11_method_9_code 2 = .ok (.laload, 1) := by decide +kernel
theorem d7_3 : decode prog_11_method_9_code 3 = .ok (.aload_n 1, 1) := by decide +kernel
theorem d7_4 : decode prog_11_method_9_code 4 = .ok (.iconst 0, 1) := by decide +kernel
theorem d7_5 : decode prog_11_method_9_code 5 = .ok (.laload, 1) := by decide +kernel
theorem d7_6 : decode prog_11_method_9_code 6 = .ok (.lxor, 1) := by decide +kernel
theorem d7_7 : decode prog_11_method_9_code 7 = .ok (.aload_n 0, 1) := by decide +kernel
theorem d7_8 : decode prog_11_method_9_code 8 = .ok (.iconst 1, 1) := by decide +kernel
theorem d7_9 : decode prog_11_method_9_code 9 = .ok (.laload, 1) := by decide +kernel
theorem d7_10 : decode prog_11_method_9_code 10 = .ok (.aload_n 1, 1) := by decide +kernel
theorem d7_11 : decode prog_11_method_9_code 11 = .ok (.iconst 1, 1) := by decide +kernel
theorem d7_12 : decode prog_11_method_9_code 12 = .ok (.laload, 1) := by decide +kernel
theorem d7_13 : decode prog_11_method_9_code 13 = .ok (.lxor, 1) := by decide +kernel
theorem d7_14 : decode prog_11_method_9_code 14 = .ok (.lor, 1) := by decide +kernel
theorem d7_15 : decode prog_11_method_9_code 15 = .ok (.aload_n 0, 1) := by decide +kernel
theorem d7_16 : decode prog_11_method_9_code 16 = .ok (.iconst 2, 1) := by decide +kernel
theorem d7_17 : decode prog_11_method_9_code 17 = .ok (.laload, 1) := by decide +kernel
theorem d7_18 : decode prog_11_method_9_code 18 = .ok (.aload_n 1, 1) := by decide +kernel
theorem d7_19 : decode prog_11_method_9_code 19 = .ok (.iconst 2, 1) := by decide +kernel
theorem d7_20 : decode prog_11_method_9_code 20 = .ok (.laload, 1) := by decide +kernel
theorem d7_21 : decode prog_11_method_9_code 21 = .ok (.lxor, 1) := by decide +kernel
theorem d7_22 : decode prog_11_method_9_code 22 = .ok (.lor, 1) := by decide +kernel
theorem d7_23 : decode prog_11_method_9_code 23 = .ok (.aload_n 0, 1) := by decide +kernel
theorem d7_24 : decode prog_11_method_9_code 24 = .ok (.iconst 3, 1) := by decide +kernel
theorem d7_25 : decode prog_11_method_9_code 25 = .ok (.laload, 1) := by decide +kernel
theorem d7_26 : decode prog_11_method_9_code 26 = .ok (.aload_n 1, 1) := by decide +kernel
theorem d7_27 : decode prog_11_method_9_code 27 = .ok (.iconst 3, 1) := by decide +kernel
theorem d7_28 : decode prog_11_method_9_code 28 = .ok (.laload, 1) := by decide +kernel
theorem d7_29 : decode prog_11_method_9_code 29 = .ok (.lxor, 1) := by decide +kernel
theorem d7_30 : decode prog_11_method_9_code 30 = .ok (.lor, 1) := by decide +kernel
theorem d7_31 : decode prog_11_method_9_code 31 = .ok (.aload_n 0, 1) := by decide +kernel
theorem d7_32 : decode prog_11_method_9_code 32 = .ok (.iconst 4, 1) := by decide +kernel
theorem d7_33 : decode prog_11_method_9_code 33 = .ok (.laload, 1) := by decide +kernel
theorem d7_34 : decode prog_11_method_9_code 34 = .ok (.aload_n 1, 1) := by decide +kernel
theorem d7_35 : decode prog_11_method_9_code 35 = .ok (.iconst 4, 1) := by decide +kernel
theorem d7_36 : decode prog_11_method_9_code 36 = .ok (.laload, 1) := by decide +kernel
theorem d7_37 : decode prog_11_method_9_code 37 = .ok (.lxor, 1) := by decide +kernel
theorem d7_38 : decode prog_11_method_9_code 38 = .ok (.lor, 1) := by decide +kernel
theorem d7_39 : decode prog_11_method_9_code 39 = .ok (.lconst 0, 1) := by decide +kernel
theorem d7_40 : decode prog_11_method_9_code 40 = .ok (.lcmp, 1) := by decide +kernel
theorem d7_41 : decode prog_11_method_9_code 41 = .ok (.ifCond .ne 7, 3) := by decide +kernel
theorem d7_44 : decode prog_11_method_9_code 44 = .ok (.iconst 1, 1) := by decide +kernel
theorem d7_45 : decode prog_11_method_9_code 45 = .ok (.goto 4, 3) := by decide +kernel
theorem d7_49 : decode prog_11_method_9_code 49 = .ok (.ireturn, 1) := by decide +kernel
theorem d7_48 : decode prog_11_method_9_code 48 = .ok (.iconst 0, 1) := by decide +kernel
theorem ef_7 (m : MethodId) (r0 : Addr) (r1 : Addr) : entryFrame m #[(.ref r0), (.ref r1)] 2 = mkF m 0 #[.val (.ref r0), .val (.ref r1)] [] := by first | (simp [entryFrame, mkF, argsToLocals, Value.category]; done) | rfl
set_option maxRecDepth 65536 in
set_option maxHeartbeats 40000000 in
theorem rm7 (l : Launch) (Z : State) (a0 : Array Value) (hw : ∀ d ∈ tables_1, d.before a0 Z = true) (r0 : Addr) (r1 : Addr) (k_r0 : ClassId) (z0 : Int64) (z1 : Int64) (z2 : Int64) (z3 : Int64) (z4 : Int64) (k_r1 : ClassId) (y0 : Int64) (y1 : Int64) (y2 : Int64) (y3 : Int64) (y4 : Int64) (h0 : Heap) (n0 : Nat) (V_r0 : Arv Z h0 r0 k_r0 .long (5 : Int32) [(.long z0), (.long z1), (.long z2), (.long z3), (.long z4)] (.long (0 : Int64))) (V_r1 : Arv Z h0 r1 k_r1 .long (5 : Int32) [(.long y0), (.long y1), (.long y2), (.long y3), (.long y4)] (.long (0 : Int64))) : own_Con [] l Z (⟨"com/example/linkwell/linkwell/cards/P256Field", "equal", "([J[J)Z"⟩ : MethodName) prog_11_method_9_code 2 (some .boolean) own_r7 n0 #[(.ref r0), (.ref r1)] h0 (own_P (.int (f7_0 z0 z1 z2 z3 z4 y0 y1 y2 y3 y4)) h0) := by
  refine own_body (plainFor_of_name (by first | (simp [plainName, overriddenIn]; done) | decide +kernel)) (fun m => mkF m 0 #[.val (.ref r0), .val (.ref r1)] []) (fun m => ef_7 m r0 r1) ?_
  intro p e s m below meth c s₁ hx hby hml hown hnm hZ hret hlk X0 e0 N0
  show own_Ends p e below s n0 _ _ _ _ (own_P (.int (if (((((z0 ^^^ y0) ||| (z1 ^^^ y1)) ||| (z2 ^^^ y2)) ||| (z3 ^^^ y3)) ||| (z4 ^^^ y4)) = (0 : Int64) then (1 : Int32) else (0 : Int32))) h0)
  refine own_go (T' := s₁) (g' := (mkF m 41 #[.val (.ref r0), .val (.ref r1)] [(.int (lcmpW (((((z0 ^^^ y0) ||| (z1 ^^^ y1)) ||| (z2 ^^^ y2)) ||| (z3 ^^^ y3)) ||| (z4 ^^^ y4)) (0 : Int64)))])) (fun t k => ?_) ?_
  · show Steps p.tables e below (s₁.setTop (mkF m 0 #[.val (.ref r0), .val (.ref r1)] [])) t
    refine XS.aloadN X0.here hx rfl (hb hby d7_0) rfl rfl ?_
    show Steps p.tables e below (s₁.setTop (mkF m 1 #[.val (.ref r0), .val (.ref r1)] [(.ref r0)])) _
    refine XS.iconst X0.here hx rfl (hb hby d7_1) ?_
    show Steps p.tables e below (s₁.setTop (mkF m 2 #[.val (.ref r0), .val (.ref r1)] [(.int (0 : Int32)), (.ref r0)])) _
    refine own_ldJ X0 hx hZ e0 V_r0 (j := (0 : Int32)) (by decide) (v := (.long z0)) rfl (g := (mkF m 2 #[.val (.ref r0), .val (.ref r1)] [(.int (0 : Int32)), (.ref r0)])) rfl rfl (hb hby d7_2) _ ?_
    show Steps p.tables e below (s₁.setTop (mkF m 3 #[.val (.ref r0), .val (.ref r1)] [(.long z0)])) _
    refine XS.aloadN X0.here hx rfl (hb hby d7_3) rfl rfl ?_
    show Steps p.tables e below (s₁.setTop (mkF m 4 #[.val (.ref r0), .val (.ref r1)] [(.ref r1), (.long z0)])) _
    refine XS.iconst X0.here hx rfl (hb hby d7_4) ?_
    show Steps p.tables e below (s₁.setTop (mkF m 5 #[.val (.ref r0), .val (.ref r1)] [(.int (0 : Int32)), (.ref r1), (.long z0)])) _
    refine own_ldJ X0 hx hZ e0 V_r1 (j := (0 : Int32)) (by decide) (v := (.long y0)) rfl (g := (mkF m 5 #[.val (.ref r0), .val (.ref r1)] [(.int (0 : Int32)), (.ref r1), (.long z0)])) rfl rfl (hb hby d7_5) _ ?_
    show Steps p.tables e below (s₁.setTop (mkF m 6 #[.val (.ref r0), .val (.ref r1)] [(.long y0), (.long z0)])) _
    refine XS.lxor X0.here hx rfl (hb hby d7_6) rfl ?_
    show Steps p.tables e below (s₁.setTop (mkF m 7 #[.val (.ref r0), .val (.ref r1)] [(.long (z0 ^^^ y0))])) _
    refine XS.aloadN X0.here hx rfl (hb hby d7_7) rfl rfl ?_
    show Steps p.tables e below (s₁.setTop (mkF m 8 #[.val (.ref r0), .val (.ref r1)] [(.ref r0), (.long (z0 ^^^ y0))])) _
    refine XS.iconst X0.here hx rfl (hb hby d7_8) ?_
    show Steps p.tables e below (s₁.setTop (mkF m 9 #[.val (.ref r0), .val (.ref r1)] [(.int (1 : Int32)), (.ref r0), (.long (z0 ^^^ y0))])) _
    refine own_ldJ X0 hx hZ e0 V_r0 (j := (1 : Int32)) (by decide) (v := (.long z1)) rfl (g := (mkF m 9 #[.val (.ref r0), .val (.ref r1)] [(.int (1 : Int32)), (.ref r0), (.long (z0 ^^^ y0))])) rfl rfl (hb hby d7_9) _ ?_
    show Steps p.tables e below (s₁.setTop (mkF m 10 #[.val (.ref r0), .val (.ref r1)] [(.long z1), (.long (z0 ^^^ y0))])) _
    refine XS.aloadN X0.here hx rfl (hb hby d7_10) rfl rfl ?_
    show Steps p.tables e below (s₁.setTop (mkF m 11 #[.val (.ref r0), .val (.ref r1)] [(.ref r1), (.long z1), (.long (z0 ^^^ y0))])) _
    refine XS.iconst X0.here hx rfl (hb hby d7_11) ?_
    show Steps p.tables e below (s₁.setTop (mkF m 12 #[.val (.ref r0), .val (.ref r1)] [(.int (1 : Int32)), (.ref r1), (.long z1), (.long (z0 ^^^ y0))])) _
    refine own_ldJ X0 hx hZ e0 V_r1 (j := (1 : Int32)) (by decide) (v := (.long y1)) rfl (g := (mkF m 12 #[.val (.ref r0), .val (.ref r1)] [(.int (1 : Int32)), (.ref r1), (.long z1), (.long (z0 ^^^ y0))])) rfl rfl (hb hby d7_12) _ ?_
    show Steps p.tables e below (s₁.setTop (mkF m 13 #[.val (.ref r0), .val (.ref r1)] [(.long y1), (.long z1), (.long (z0 ^^^ y0))])) _
    refine XS.lxor X0.here hx rfl (hb hby d7_13) rfl ?_
    show Steps p.tables e below (s₁.setTop (mkF m 14 #[.val (.ref r0), .val (.ref r1)] [(.long (z1 ^^^ y1)), (.long (z0 ^^^ y0))])) _
    refine XS.lor X0.here hx rfl (hb hby d7_14) rfl ?_
    show Steps p.tables e below (s₁.setTop (mkF m 15 #[.val (.ref r0), .val (.ref r1)] [(.long ((z0 ^^^ y0) ||| (z1 ^^^ y1)))])) _
    refine XS.aloadN X0.here hx rfl (hb hby d7_15) rfl rfl ?_
    show Steps p.tables e below (s₁.setTop (mkF m 16 #[.val (.ref r0), .val (.ref r1)] [(.ref r0), (.long ((z0 ^^^ y0) ||| (z1 ^^^ y1)))])) _
    refine XS.iconst X0.here hx rfl (hb hby d7_16) ?_
    show Steps p.tables e below (s₁.setTop (mkF m 17 #[.val (.ref r0), .val (.ref r1)] [(.int (2 : Int32)), (.ref r0), (.long ((z0 ^^^ y0) ||| (z1 ^^^ y1)))])) _
    refine own_ldJ X0 hx hZ e0 V_r0 (j := (2 : Int32)) (by decide) (v := (.long z2)) rfl (g := (mkF m 17 #[.val (.ref r0), .val (.ref r1)] [(.int (2 : Int32)), (.ref r0), (.long ((z0 ^^^ y0) ||| (z1 ^^^ y1)))])) rfl rfl (hb hby d7_17) _ ?_
    show Steps p.tables e below (s₁.setTop (mkF m 18 #[.val (.ref r0), .val (.ref r1)] [(.long z2), (.long ((z0 ^^^ y0) ||| (z1 ^^^ y1)))])) _
    refine XS.aloadN X0.here hx rfl (hb hby d7_18) rfl rfl ?_
    show Steps p.tables e below (s₁.setTop (mkF m 19 #[.val (.ref r0), .val (.ref r1)] [(.ref r1), (.long z2), (.long ((z0 ^^^ y0) ||| (z1 ^^^ y1)))])) _
    refine XS.iconst X0.here hx rfl (hb hby d7_19) ?_
    show Steps p.tables e below (s₁.setTop (mkF m 20 #[.val (.ref r0), .val (.ref r1)] [(.int (2 : Int32)), (.ref r1), (.long z2), (.long ((z0 ^^^ y0) ||| (z1 ^^^ y1)))])) _
    refine own_ldJ X0 hx hZ e0 V_r1 (j := (2 : Int32)) (by decide) (v := (.long y2)) rfl (g := (mkF m 20 #[.val (.ref r0), .val (.ref r1)] [(.int (2 : Int32)), (.ref r1), (.long z2), (.long ((z0 ^^^ y0) ||| (z1 ^^^ y1)))])) rfl rfl (hb hby d7_20) _ ?_
    show Steps p.tables e below (s₁.setTop (mkF m 21 #[.val (.ref r0), .val (.ref r1)] [(.long y2), (.long z2), (.long ((z0 ^^^ y0) ||| (z1 ^^^ y1)))])) _
    refine XS.lxor X0.here hx rfl (hb hby d7_21) rfl ?_
    show Steps p.tables e below (s₁.setTop (mkF m 22 #[.val (.ref r0), .val (.ref r1)] [(.long (z2 ^^^ y2)), (.long ((z0 ^^^ y0) ||| (z1 ^^^ y1)))])) _
    refine XS.lor X0.here hx rfl (hb hby d7_22) rfl ?_
    show Steps p.tables e below (s₁.setTop (mkF m 23 #[.val (.ref r0), .val (.ref r1)] [(.long (((z0 ^^^ y0) ||| (z1 ^^^ y1)) ||| (z2 ^^^ y2)))])) _
    refine XS.aloadN X0.here hx rfl (hb hby d7_23) rfl rfl ?_
    show Steps p.tables e below (s₁.setTop (mkF m 24 #[.val (.ref r0), .val (.ref r1)] [(.ref r0), (.long (((z0 ^^^ y0) ||| (z1 ^^^ y1)) ||| (z2 ^^^ y2)))])) _
    refine XS.iconst X0.here hx rfl (hb hby d7_24) ?_
    show Steps p.tables e below (s₁.setTop (mkF m 25 #[.val (.ref r0), .val (.ref r1)] [(.int (3 : Int32)), (.ref r0), (.long (((z0 ^^^ y0) ||| (z1 ^^^ y1)) ||| (z2 ^^^ y2)))])) _
    refine own_ldJ X0 hx hZ e0 V_r0 (j := (3 : Int32)) (by decide) (v := (.long z3)) rfl (g := (mkF m 25 #[.val (.ref r0), .val (.ref r1)] [(.int (3 : Int32)), (.ref r0), (.long (((z0 ^^^ y0) ||| (z1 ^^^ y1)) ||| (z2 ^^^ y2)))])) rfl rfl (hb hby d7_25) _ ?_
    show Steps p.tables e below (s₁.setTop (mkF m 26 #[.val (.ref r0), .val (.ref r1)] [(.long z3), (.long (((z0 ^^^ y0) ||| (z1 ^^^ y1)) ||| (z2 ^^^ y2)))])) _
    refine XS.aloadN X0.here hx rfl (hb hby d7_26) rfl rfl ?_
    show Steps p.tables e below (s₁.setTop (mkF m 27 #[.val (.ref r0), .val (.ref r1)] [(.ref r1), (.long z3), (.long (((z0 ^^^ y0) ||| (z1 ^^^ y1)) ||| (z2 ^^^ y2)))])) _
    refine XS.iconst X0.here hx rfl (hb hby d7_27) ?_
    show Steps p.tables e below (s₁.setTop (mkF m 28 #[.val (.ref r0), .val (.ref r1)] [(.int (3 : Int32)), (.ref r1), (.long z3), (.long (((z0 ^^^ y0) ||| (z1 ^^^ y1)) ||| (z2 ^^^ y2)))])) _
    refine own_ldJ X0 hx hZ e0 V_r1 (j := (3 : Int32)) (by decide) (v := (.long y3)) rfl (g := (mkF m 28 #[.val (.ref r0), .val (.ref r1)] [(.int (3 : Int32)), (.ref r1), (.long z3), (.long (((z0 ^^^ y0) ||| (z1 ^^^ y1)) ||| (z2 ^^^ y2)))])) rfl rfl (hb hby d7_28) _ ?_
    show Steps p.tables e below (s₁.setTop (mkF m 29 #[.val (.ref r0), .val (.ref r1)] [(.long y3), (.long z3), (.long (((z0 ^^^ y0) ||| (z1 ^^^ y1)) ||| (z2 ^^^ y2)))])) _
    refine XS.lxor X0.here hx rfl (hb hby d7_29) rfl ?_
    show Steps p.tables e below (s₁.setTop (mkF m 30 #[.val (.ref r0), .val (.ref r1)] [(.long (z3 ^^^ y3)), (.long (((z0 ^^^ y0) ||| (z1 ^^^ y1)) ||| (z2 ^^^ y2)))])) _
    refine XS.lor X0.here hx rfl (hb hby d7_30) rfl ?_
    show Steps p.tables e below (s₁.setTop (mkF m 31 #[.val (.ref r0), .val (.ref r1)] [(.long ((((z0 ^^^ y0) ||| (z1 ^^^ y1)) ||| (z2 ^^^ y2)) ||| (z3 ^^^ y3)))])) _
    refine XS.aloadN X0.here hx rfl (hb hby d7_31) rfl rfl ?_
    show Steps p.tables e below (s₁.setTop (mkF m 32 #[.val (.ref r0), .val (.ref r1)] [(.ref r0), (.long ((((z0 ^^^ y0) ||| (z1 ^^^ y1)) ||| (z2 ^^^ y2)) ||| (z3 ^^^ y3)))])) _
    refine XS.iconst X0.here hx rfl (hb hby d7_32) ?_
    show Steps p.tables e below (s₁.setTop (mkF m 33 #[.val (.ref r0), .val (.ref r1)] [(.int (4 : Int32)), (.ref r0), (.long ((((z0 ^^^ y0) ||| (z1 ^^^ y1)) ||| (z2 ^^^ y2)) ||| (z3 ^^^ y3)))])) _
    refine own_ldJ X0 hx hZ e0 V_r0 (j := (4 : Int32)) (by decide) (v := (.long z4)) rfl (g := (mkF m 33 #[.val (.ref r0), .val (.ref r1)] [(.int (4 : Int32)), (.ref r0), (.long ((((z0 ^^^ y0) ||| (z1 ^^^ y1)) ||| (z2 ^^^ y2)) ||| (z3 ^^^ y3)))])) rfl rfl (hb hby d7_33) _ ?_
    show Steps p.tables e below (s₁.setTop (mkF m 34 #[.val (.ref r0), .val (.ref r1)] [(.long z4), (.long ((((z0 ^^^ y0) ||| (z1 ^^^ y1)) ||| (z2 ^^^ y2)) ||| (z3 ^^^ y3)))])) _
    refine XS.aloadN X0.here hx rfl (hb hby d7_34) rfl rfl ?_
    show Steps p.tables e below (s₁.setTop (mkF m 35 #[.val (.ref r0), .val (.ref r1)] [(.ref r1), (.long z4), (.long ((((z0 ^^^ y0) ||| (z1 ^^^ y1)) ||| (z2 ^^^ y2)) ||| (z3 ^^^ y3)))])) _
    refine XS.iconst X0.here hx rfl (hb hby d7_35) ?_
    show Steps p.tables e below (s₁.setTop (mkF m 36 #[.val (.ref r0), .val (.ref r1)] [(.int (4 : Int32)), (.ref r1), (.long z4), (.long ((((z0 ^^^ y0) ||| (z1 ^^^ y1)) ||| (z2 ^^^ y2)) ||| (z3 ^^^ y3)))])) _
    refine own_ldJ X0 hx hZ e0 V_r1 (j := (4 : Int32)) (by decide) (v := (.long y4)) rfl (g := (mkF m 36 #[.val (.ref r0), .val (.ref r1)] [(.int (4 : Int32)), (.ref r1), (.long z4), (.long ((((z0 ^^^ y0) ||| (z1 ^^^ y1)) ||| (z2 ^^^ y2)) ||| (z3 ^^^ y3)))])) rfl rfl (hb hby d7_36) _ ?_
    show Steps p.tables e below (s₁.setTop (mkF m 37 #[.val (.ref r0), .val (.ref r1)] [(.long y4), (.long z4), (.long ((((z0 ^^^ y0) ||| (z1 ^^^ y1)) ||| (z2 ^^^ y2)) ||| (z3 ^^^ y3)))])) _
    refine XS.lxor X0.here hx rfl (hb hby d7_37) rfl ?_
    show Steps p.tables e below (s₁.setTop (mkF m 38 #[.val (.ref r0), .val (.ref r1)] [(.long (z4 ^^^ y4)), (.long ((((z0 ^^^ y0) ||| (z1 ^^^ y1)) ||| (z2 ^^^ y2)) ||| (z3 ^^^ y3)))])) _
    refine XS.lor X0.here hx rfl (hb hby d7_38) rfl ?_
    show Steps p.tables e below (s₁.setTop (mkF m 39 #[.val (.ref r0), .val (.ref r1)] [(.long (((((z0 ^^^ y0) ||| (z1 ^^^ y1)) ||| (z2 ^^^ y2)) ||| (z3 ^^^ y3)) ||| (z4 ^^^ y4)))])) _
    refine XS.lconst X0.here hx rfl (hb hby d7_39) ?_
    show Steps p.tables e below (s₁.setTop (mkF m 40 #[.val (.ref r0), .val (.ref r1)] [(.long (0 : Int64)), (.long (((((z0 ^^^ y0) ||| (z1 ^^^ y1)) ||| (z2 ^^^ y2)) ||| (z3 ^^^ y3)) ||| (z4 ^^^ y4)))])) _
    refine XS.lcmp X0.here hx rfl (hb hby d7_40) rfl ?_
    show Steps p.tables e below (s₁.setTop (mkF m 41 #[.val (.ref r0), .val (.ref r1)] [(.int (lcmpW (((((z0 ^^^ y0) ||| (z1 ^^^ y1)) ||| (z2 ^^^ y2)) ||| (z3 ^^^ y3)) ||| (z4 ^^^ y4)) (0 : Int64)))])) _
    exact k
  by_cases hc41_1 : (((((z0 ^^^ y0) ||| (z1 ^^^ y1)) ||| (z2 ^^^ y2)) ||| (z3 ^^^ y3)) ||| (z4 ^^^ y4)) = (0 : Int64)
  · rw [if_pos hc41_1]
    refine own_go (T' := s₁) (g' := (mkF m 44 #[.val (.ref r0), .val (.ref r1)] [])) (fun t k => ?_) ?_
    · refine XS.ifNo X0.here hx rfl (hb hby d7_41) rfl ((if0 _ _).trans (teq ((lw_eq _ _).mpr hc41_1)).2) ?_
      exact k
    refine own_go (T' := s₁) (g' := (mkF m 49 #[.val (.ref r0), .val (.ref r1)] [(.int (1 : Int32))])) (fun t k => ?_) ?_
    · show Steps p.tables e below (s₁.setTop (mkF m 44 #[.val (.ref r0), .val (.ref r1)] [])) t
      refine XS.iconst X0.here hx rfl (hb hby d7_44) ?_
      show Steps p.tables e below (s₁.setTop (mkF m 45 #[.val (.ref r0), .val (.ref r1)] [(.int (1 : Int32))])) _
      refine XS.goto X0.here hx rfl (pc0 := 45) (pc' := 49) rfl (hb hby d7_45) (by decide) (by decide) ?_
      show Steps p.tables e below (s₁.setTop (mkF m 49 #[.val (.ref r0), .val (.ref r1)] [(.int (1 : Int32))])) _
      exact k
    exact own_retN X0 hx hlk hret (by simp) (hb hby d7_49) (by decide) (by decide) N0 ⟨rfl, e0⟩
  · rw [if_neg hc41_1]
    refine own_go (T' := s₁) (g' := (mkF m 48 #[.val (.ref r0), .val (.ref r1)] [])) (fun t k => ?_) ?_
    · refine XS.ifYes X0.here hx rfl (pc0 := 41) (pc' := 48) rfl (hb hby d7_41) rfl ((if0 _ _).trans (feq (mt (lw_eq _ _).mp hc41_1)).2) (by decide) (by decide) ?_
      exact k
    refine own_go (T' := s₁) (g' := (mkF m 49 #[.val (.ref r0), .val (.ref r1)] [(.int (0 : Int32))])) (fun t k => ?_) ?_
    · show Steps p.tables e below (s₁.setTop (mkF m 48 #[.val (.ref r0), .val (.ref r1)] [])) t
      refine XS.iconst X0.here hx rfl (hb hby d7_48) ?_
      show Steps p.tables e below (s₁.setTop (mkF m 49 #[.val (.ref r0), .val (.ref r1)] [(.int (0 : Int32))])) _
      exact k
    exact own_retN X0 hx hlk hret (by simp) (hb hby d7_49) (by decide) (by decide) N0 ⟨rfl, e0⟩
def own_E3 (A0 A1 A2 A3 A4 B0 B1 B2 B3 B4 t0 t1 t2 t3 t4 m1 u0 u1 u2 u3 u4 : Int64) : Prop := t0 = (A0 - B0) ∧ t1 = ((A1 - B1) + (t0 >>> ((52 : Int32) &&& 0x3f).toInt64)) ∧ t2 = ((A2 - B2) + (t1 >>> ((52 : Int32) &&& 0x3f).toInt64)) ∧ t3 = ((A3 - B3) + (t2 >>> ((52 : Int32) &&& 0x3f).toInt64)) ∧ t4 = ((A4 - B4) + (t3 >>> ((52 : Int32) &&& 0x3f).toInt64)) ∧ m1 = (t4 >>> ((63 : Int32) &&& 0x3f).toInt64) ∧ u0 = ((t0 &&& (4503599627370495 : Int64)) + ((4503599627370495 : Int64) &&& m1)) ∧ u1 = (((t1 &&& (4503599627370495 : Int64)) + ((17592186044415 : Int64) &&& m1)) + (u0 >>> ((52 : Int32) &&& 0x3f).toInt64)) ∧ u2 = ((t2 &&& (4503599627370495 : Int64)) + (u1 >>> ((52 : Int32) &&& 0x3f).toInt64)) ∧ u3 = (((t3 &&& (4503599627370495 : Int64)) + ((68719476736 : Int64) &&& m1)) + (u2 >>> ((52 : Int32) &&& 0x3f).toInt64)) ∧ u4 = ((t4 + ((281474976645120 : Int64) &&& m1)) + (u3 >>> ((52 : Int32) &&& 0x3f).toInt64))
def own_Q3 (Z : State) (r0 : Addr) (k0 : ClassId) (A0 A1 A2 A3 A4 B0 B1 B2 B3 B4 : Int64) (h0 : Heap) : Option Value → Heap → Prop := fun v h => v = none ∧ Keep h0 h [r0] ∧ ∃ t0 t1 t2 t3 t4 m1 u0 u1 u2 u3 u4 : Int64, own_E3 A0 A1 A2 A3 A4 B0 B1 B2 B3 B4 t0 t1 t2 t3 t4 m1 u0 u1 u2 u3 u4 ∧ Arv Z h r0 k0 .long (5 : Int32) [(.long (u0 &&& (4503599627370495 : Int64))), (.long (u1 &&& (4503599627370495 : Int64))), (.long (u2 &&& (4503599627370495 : Int64))), (.long (u3 &&& (4503599627370495 : Int64))), (.long u4)] (.long (0 : Int64))
abbrev own_r3 : Room := { frames := 0, cells := 0, slots := 0, locals := 0 }
theorem d3_0 : decode prog_11_method_11_code 0 = .ok (.aload_n 1, 1) := by decide +kernel
theorem d3_1 : decode prog_11_method_11_code 1 = .ok (.iconst 0, 1) := by decide +kernel
theorem d3_2 : decode prog_11_method_11_code 2 = .ok (.laload, 1) := by decide +kernel
theorem d3_3 : decode prog_11_method_11_code 3 = .ok (.aload_n 2, 1) := by decide +kernel
theorem d3_4 : decode prog_11_method_11_code 4 = .ok (.iconst 0, 1) := by decide +kernel
theorem d3_5 : decode prog_11_method_11_code 5 = .ok (.laload, 1) := by decide +kernel
theorem d3_6 : decode prog_11_method_11_code 6 = .ok (.lsub, 1) := by decide +kernel
theorem d3_7 : decode prog_11_method_11_code 7 = .ok (.lstore_n 3, 1) := by decide +kernel
theorem d3_8 : decode prog_11_method_11_code 8 = .ok (.aload_n 1, 1) := by decide +kernel
theorem d3_9 : decode prog_11_method_11_code 9 = .ok (.iconst 1, 1) := by decide +kernel
theorem d3_10 : decode prog_11_method_11_code 10 = .ok (.laload, 1) := by decide +kernel
theorem d3_11 : decode prog_11_method_11_code 11 = .ok (.aload_n 2, 1) := by decide +kernel
theorem d3_12 : decode prog_11_method_11_code 12 = .ok (.iconst 1, 1) := by decide +kernel
theorem d3_13 : decode prog_11_method_11_code 13 = .ok (.laload, 1) := by decide +kernel
theorem d3_14 : decode prog_11_method_11_code 14 = .ok (.lsub, 1) := by decide +kernel
theorem d3_15 : decode prog_11_method_11_code 15 = .ok (.lload_n 3, 1) := by decide +kernel
theorem d3_16 : decode prog_11_method_11_code 16 = .ok (.bipush 52, 2) := by decide +kernel
theorem d3_18 : decode prog_11_method_11_code 18 = .ok (.lshr, 1) := by decide +kernel
theorem d3_19 : decode prog_11_method_11_code 19 = .ok (.ladd, 1) := by decide +kernel
theorem d3_20 : decode prog_11_method_11_code 20 = .ok (.lstore 5, 2) := by decide +kernel
theorem d3_22 : decode prog_11_method_11_code 22 = .ok (.aload_n 1, 1) := by decide +kernel
theorem d3_23 : decode prog_11_method_11_code 23 = .ok (.iconst 2, 1) := by decide +kernel
theorem d3_24 : decode prog_11_method_11_code 24 = .ok (.laload, 1) := by decide +kernel
theorem d3_25 : decode prog_11_method_11_code 25 = .ok (.aload_n 2, 1) := by decide +kernel
theorem d3_26 : decode prog_11_method_11_code 26 = .ok (.iconst 2, 1) := by decide +kernel
theorem d3_27 : decode prog_11_method_11_code 27 = .ok (.laload, 1) := by decide +kernel
theorem d3_28 : decode prog_11_method_11_code 28 = .ok (.lsub, 1) := by decide +kernel
theorem d3_29 : decode prog_11_method_11_code 29 = .ok (.lload 5, 2) := by decide +kernel
theorem d3_31 : decode prog_11_method_11_code 31 = .ok (.bipush 52, 2) := by decide +kernel
theorem d3_33 : decode prog_11_method_11_code 33 = .ok (.lshr, 1) := by decide +kernel
theorem d3_34 : decode prog_11_method_11_code 34 = .ok (.ladd, 1) := by decide +kernel
theorem d3_35 : decode prog_11_method_11_code 35 = .ok (.lstore 7, 2) := by decide +kernel
theorem d3_37 : decode prog_11_method_11_code 37 = .ok (.aload_n 1, 1) := by decide +kernel
theorem d3_38 : decode prog_11_method_11_code 38 = .ok (.iconst 3, 1) := by decide +kernel
theorem d3_39 : decode prog_11_method_11_code 39 = .ok (.laload, 1) := by decide +kernel
theorem d3_40 : decode prog_11_method_11_code 40 = .ok (.aload_n 2, 1) := by decide +kernel
theorem d3_41 : decode prog_11_method_11_code 41 = .ok (.iconst 3, 1) := by decide +kernel
theorem d3_42 : decode prog_11_method_11_code 42 = .ok (.laload, 1) := by decide +kernel
theorem d3_43 : decode prog_11_method_11_code 43 = .ok (.lsub, 1) := by decide +kernel
theorem d3_44 : decode prog_11_method_11_code 44 = .ok (.lload 7, 2) := by decide +kernel
theorem d3_46 : decode prog_11_method_11_code 46 = .ok (.bipush 52, 2) := by decide +kernel
theorem d3_48 : decode prog_11_method_11_code 48 = .ok (.lshr, 1) := by decide +kernel
theorem d3_49 : decode prog_11_method_11_code 49 = .ok (.ladd, 1) := by decide +kernel
theorem d3_50 : decode prog_11_method_11_code 50 = .ok (.lstore 9, 2) := by decide +kernel
theorem d3_52 : decode prog_11_method_11_code 52 = .ok (.aload_n 1, 1) := by decide +kernel
theorem d3_53 : decode prog_11_method_11_code 53 = .ok (.iconst 4, 1) := by decide +kernel
theorem d3_54 : decode prog_11_method_11_code 54 = .ok (.laload, 1) := by decide +kernel
theorem d3_55 : decode prog_11_method_11_code 55 = .ok (.aload_n 2, 1) := by decide +kernel
theorem d3_56 : decode prog_11_method_11_code 56 = .ok (.iconst 4, 1) := by decide +kernel
theorem d3_57 : decode prog_11_method_11_code 57 = .ok (.laload, 1) := by decide +kernel
theorem d3_58 : decode prog_11_method_11_code 58 = .ok (.lsub, 1) := by decide +kernel
theorem d3_59 : decode prog_11_method_11_code 59 = .ok (.lload 9, 2) := by decide +kernel
theorem d3_61 : decode prog_11_method_11_code 61 = .ok (.bipush 52, 2) := by decide +kernel
theorem d3_63 : decode prog_11_method_11_code 63 = .ok (.lshr, 1) := by decide +kernel
theorem d3_64 : decode prog_11_method_11_code 64 = .ok (.ladd, 1) := by decide +kernel
theorem d3_65 : decode prog_11_method_11_code 65 = .ok (.lstore 11, 2) := by decide +kernel
theorem d3_67 : decode prog_11_method_11_code 67 = .ok (.lload 11, 2) := by decide +kernel
theorem d3_69 : decode prog_11_method_11_code 69 = .ok (.bipush 63, 2) := by decide +kernel
theorem d3_71 : decode prog_11_method_11_code 71 = .ok (.lshr, 1) := by decide +kernel
theorem d3_72 : decode prog_11_method_11_code 72 = .ok (.lstore 13, 2) := by decide +kernel
theorem d3_74 : decode prog_11_method_11_code 74 = .ok (.lload_n 3, 1) := by decide +kernel
theorem d3_75 : decode prog_11_method_11_code 75 = .ok (.ldc2_w 54, 3) := by decide +kernel
theorem d3_78 : decode prog_11_method_11_code 78 = .ok (.land, 1) := by decide +kernel
theorem d3_79 : decode prog_11_method_11_code 79 = .ok (.ldc2_w 54, 3) := by decide +kernel
theorem d3_82 : decode prog_11_method_11_code 82 = .ok (.lload 13, 2) := by decide +kernel
theorem d3_84 : decode prog_11_method_11_code 84 = .ok (.land, 1) := by decide +kernel
theorem d3_85 : decode prog_11_method_11_code 85 = .ok (.ladd, 1) := by decide +kernel
theorem d3_86 : decode prog_11_method_11_code 86 = .ok (.lstore_n 3, 1) := by decide +kernel
theorem d3_87 : decode prog_11_method_11_code 87 = .ok (.lload 5, 2) := by decide +kernel
theorem d3_89 : decode prog_11_method_11_code 89 = .ok (.ldc2_w 54, 3) := by decide +kernel
theorem d3_92 : decode prog_11_method_11_code 92 = .ok (.land, 1) := by decide +kernel
theorem d3_93 : decode prog_11_method_11_code 93 = .ok (.ldc2_w 66, 3) := by decide +kernel
theorem d3_96 : decode prog_11_method_11_code 96 = .ok (.lload 13, 2) := by decide +kernel
theorem d3_98 : decode prog_11_method_11_code 98 = .ok (.land, 1) := by decide +kernel
theorem d3_99 : decode prog_11_method_11_code 99 = .ok (.ladd, 1) := by decide +kernel
theorem d3_100 : decode prog_11_method_11_code 100 = .ok (.lload_n 3, 1) := by decide +kernel
theorem d3_101 : decode prog_11_method_11_code 101 = .ok (.bipush 52, 2) := by decide +kernel
theorem d3_103 : decode prog_11_method_11_code 103 = .ok (.lshr, 1) := by decide +kernel
theorem d3_104 : decode prog_11_method_11_code 104 = .ok (.ladd, 1) := by decide +kernel
theorem d3_105 : decode prog_11_method_11_code 105 = .ok (.lstore 5, 2) := by decide +kernel
theorem d3_107 : decode prog_11_method_11_code 107 = .ok (.lload 7, 2) := by decide +kernel
theorem d3_109 : decode prog_11_method_11_code 109 = .ok (.ldc2_w 54, 3) := by decide +kernel
theorem d3_112 : decode prog_11_method_11_code 112 = .ok (.land, 1) := by decide +kernel
theorem d3_113 : decode prog_11_method_11_code 113 = .ok (.lload 5, 2) := by decide +kernel
theorem d3_115 : decode prog_11_method_11_code 115 = .ok (.bipush 52, 2) := by decide +kernel
theorem d3_117 : decode prog_11_method_11_code 117 = .ok (.lshr, 1) := by decide +kernel
theorem d3_118 : decode prog_11_method_11_code 118 = .ok (.ladd, 1) := by decide +kernel
theorem d3_119 : decode prog_11_method_11_code 119 = .ok (.lstore 7, 2) := by decide +kernel
theorem d3_121 : decode prog_11_method_11_code 121 = .ok (.lload 9, 2) := by decide +kernel
theorem d3_123 : decode prog_11_method_11_code 123 = .ok (.ldc2_w 54, 3) := by decide +kernel
theorem d3_126 : decode prog_11_method_11_code 126 = .ok (.land, 1) := by decide +kernel
theorem d3_127 : decode prog_11_method_11_code 127 = .ok (.ldc2_w 68, 3) := by decide +kernel
theorem d3_130 : decode prog_11_method_11_code 130 = .ok (.lload 13, 2) := by decide +kernel
theorem d3_132 : decode prog_11_method_11_code 132 = .ok (.land, 1) := by decide +kernel
theorem d3_133 : decode prog_11_method_11_code 133 = .ok (.ladd, 1) := by decide +kernel
theorem d3_134 : decode prog_11_method_11_code 134 = .ok (.lload 7, 2) := by decide +kernel
theorem d3_136 : decode prog_11_method_11_code 136 = .ok (.bipush 52, 2) := by decide +kernel
theorem d3_138 : decode prog_11_method_11_code 138 = .ok (.lshr, 1) := by decide +kernel
theorem d3_139 : decode prog_11_method_11_code 139 = .ok (.ladd, 1) := by decide +kernel
theorem d3_140 : decode prog_11_method_11_code 140 = .ok (.lstore 9, 2) := by decide +kernel
theorem d3_142 : decode prog_11_method_11_code 142 = .ok (.lload 11, 2) := by decide +kernel
theorem d3_144 : decode prog_11_method_11_code 144 = .ok (.ldc2_w 70, 3) := by decide +kernel
theorem d3_147 : decode prog_11_method_11_code 147 = .ok (.lload 13, 2) := by decide +kernel
theorem d3_149 : decode prog_11_method_11_code 149 = .ok (.land, 1) := by decide +kernel
theorem d3_150 : decode prog_11_method_11_code 150 = .ok (.ladd, 1) := by decide +kernel
theorem d3_151 : decode prog_11_method_11_code 151 = .ok (.lload 9, 2) := by decide +kernel
theorem d3_153 : decode prog_11_method_11_code 153 = .ok (.bipush 52, 2) := by decide +kernel
theorem d3_155 : decode prog_11_method_11_code 155 = .ok (.lshr, 1) := by decide +kernel
theorem d3_156 : decode prog_11_method_11_code 156 = .ok (.ladd, 1) := by decide +kernel
theorem d3_157 : decode prog_11_method_11_code 157 = .ok (.lstore 11, 2) := by decide +kernel
theorem d3_159 : decode prog_11_method_11_code 159 = .ok (.aload_n 0, 1) := by decide +kernel
theorem d3_160 : decode prog_11_method_11_code 160 = .ok (.iconst 0, 1) := by decide +kernel
theorem d3_161 : decode prog_11_method_11_code 161 = .ok (.lload_n 3, 1) := by decide +kernel
theorem d3_162 : decode prog_11_method_11_code 162 = .ok (.ldc2_w 54, 3) := by decide +kernel
theorem d3_165 : decode prog_11_method_11_code 165 = .ok (.land, 1) := by decide +kernel
theorem d3_166 : decode prog_11_method_11_code 166 = .ok (.lastore, 1) := by decide +kernel
theorem d3_167 : decode prog_11_method_11_code 167 = .ok (.aload_n 0, 1) := by decide +kernel
theorem d3_168 : decode prog_11_method_11_code 168 = .ok (.iconst 1, 1) := by decide +kernel
theorem d3_169 : decode prog_11_method_11_code 169 = .ok (.lload 5, 2) := by decide +kernel
theorem d3_171 : decode prog_11_method_11_code 171 = .ok (.ldc2_w 54, 3) := by decide +kernel
theorem d3_174 : decode prog_11_method_11_code 174 = .ok (.land, 1) := by decide +kernel
theorem d3_175 : decode prog_11_method_11_code 175 = .ok (.lastore, 1) := by decide +kernel
theorem d3_176 : decode prog_11_method_11_code 176 = .ok (.aload_n 0, 1) := by decide +kernel
theorem d3_177 : decode prog_11_method_11_code 177 = .ok (.iconst 2, 1) := by decide +kernel
theorem d3_178 : decode prog_11_method_11_code 178 = .ok (.lload 7, 2) := by decide +kernel
theorem d3_180 : decode prog_11_method_11_code 180 = .ok (.ldc2_w 54, 3) := by decide +kernel
theorem d3_183 : decode prog_11_method_11_code 183 = .ok (.land, 1) := by decide +kernel
theorem d3_184 : decode prog_11_method_11_code 184 = .ok (.lastore, 1) := by decide +kernel
theorem d3_185 : decode prog_11_method_11_code 185 = .ok (.aload_n 0, 1) := by decide +kernel
theorem d3_186 : decode prog_11_method_11_code 186 = .ok (.iconst 3, 1) := by decide +kernel
theorem d3_187 : decode prog_11_method_11_code 187 = .ok (.lload 9, 2) := by decide +kernel
theorem d3_189 : decode prog_11_method_11_code 189 = .ok (.ldc2_w 54, 3) := by decide +kernel
theorem d3_192 : decode prog_11_method_11_code 192 = .ok (.land, 1) := by decide +kernel
theorem d3_193 : decode prog_11_method_11_code 193 = .ok (.lastore, 1) := by decide +kernel
theorem d3_194 : decode prog_11_method_11_code 194 = .ok (.aload_n 0, 1) := by decide +kernel
theorem d3_195 : decode prog_11_method_11_code 195 = .ok (.iconst 4, 1) := by decide +kernel
theorem d3_196 : decode prog_11_method_11_code 196 = .ok (.lload 11, 2) := by decide +kernel
theorem d3_198 : decode prog_11_method_11_code 198 = .ok (.lastore, 1) := by decide +kernel
theorem d3_199 : decode prog_11_method_11_code 199 = .ok (.return_, 1) := by decide +kernel
theorem ef_3 (m : MethodId) (r0 : Addr) (r1 : Addr) (r2 : Addr) : entryFrame m #[(.ref r0), (.ref r1), (.ref r2)] 15 = mkF m 0 #[.val (.ref r0), .val (.ref r1), .val (.ref r2), .unset, .unset, .unset, .unset, .unset, .unset, .unset, .unset, .unset, .unset, .unset, .unset] [] := by first | (simp [entryFrame, mkF, argsToLocals, Value.category]; done) | rfl
set_option maxRecDepth 65536 in
set_option maxHeartbeats 40000000 in
theorem rm3 (l : Launch) (Z : State) (a0 : Array Value) (hw : ∀ d ∈ tables_1, d.before a0 Z = true) (r0 r1 r2 : Addr) (k0 k1 k2 : ClassId) (O0 O1 O2 O3 O4 A0 A1 A2 A3 A4 B0 B1 B2 B3 B4 : Int64) (h0 : Heap) (n0 : Nat) (Z0 : n0 ≤ h0.size) (ga_r0 : n0 ≤ r0) (V0 : Arv Z h0 r0 k0 .long (5 : Int32) [(.long O0), (.long O1), (.long O2), (.long O3), (.long O4)] (.long (0 : Int64))) (V1 : Arv Z h0 r1 k1 .long (5 : Int32) [(.long A0), (.long A1), (.long A2), (.long A3), (.long A4)] (.long (0 : Int64))) (V2 : Arv Z h0 r2 k2 .long (5 : Int32) [(.long B0), (.long B1), (.long B2), (.long B3), (.long B4)] (.long (0 : Int64))) : own_Con [] l Z (⟨"com/example/linkwell/linkwell/cards/P256Field", "sub", "([J[J[J)V"⟩ : MethodName) prog_11_method_11_code 15 none own_r3 n0 #[(.ref r0), (.ref r1), (.ref r2)] h0 (own_Q3 Z r0 k0 A0 A1 A2 A3 A4 B0 B1 B2 B3 B4 h0) := by
  refine own_body (plainFor_of_name (by first | (simp [plainName, overriddenIn]; done) | decide +kernel)) (fun m => mkF m 0 #[.val (.ref r0), .val (.ref r1), .val (.ref r2), .unset, .unset, .unset, .unset, .unset, .unset, .unset, .unset, .unset, .unset, .unset, .unset] []) (fun m => ef_3 m r0 r1 r2) ?_
  intro p e s m below meth c s₁ hx hby hml hown hnm hZ hret hlk X0 e0 N0
  have K0 := Keep.refl h0 [r0]
  refine own_go (T' := s₁) (g' := (mkF m 8 #[.val (.ref r0), .val (.ref r1), .val (.ref r2), .val (.long (A0 - B0)), .second, .unset, .unset, .unset, .unset, .unset, .unset, .unset, .unset, .unset, .unset] [])) (fun t k => ?_) ?_
  · show Steps p.tables e below (s₁.setTop (mkF m 0 #[.val (.ref r0), .val (.ref r1), .val (.ref r2), .unset, .unset, .unset, .unset, .unset, .unset, .unset, .unset, .unset, .unset, .unset, .unset] [])) t
    refine XS.aloadN X0.here hx rfl (hb hby d3_0) rfl rfl ?_
    show Steps p.tables e below (s₁.setTop (mkF m 1 #[.val (.ref r0), .val (.ref r1), .val (.ref r2), .unset, .unset, .unset, .unset, .unset, .unset, .unset, .unset, .unset, .unset, .unset, .unset] [(.ref r1)])) _
    refine XS.iconst X0.here hx rfl (hb hby d3_1) ?_
    show Steps p.tables e below (s₁.setTop (mkF m 2 #[.val (.ref r0), .val (.ref r1), .val (.ref r2), .unset, .unset, .unset, .unset, .unset, .unset, .unset, .unset, .unset, .unset, .unset, .unset] [(.int (0 : Int32)), (.ref r1)])) _
    refine own_ldJ X0 hx hZ e0 V1 (j := (0 : Int32)) (by decide) (v := (.long A0)) rfl (g := (mkF m 2 #[.val (.ref r0), .val (.ref r1), .val (.ref r2), .unset, .unset, .unset, .unset, .unset, .unset, .unset, .unset, .unset, .unset, .unset, .unset] [(.int (0 : Int32)), (.ref r1)])) rfl rfl (hb hby d3_2) _ ?_
    show Steps p.tables e below (s₁.setTop (mkF m 3 #[.val (.ref r0), .val (.ref r1), .val (.ref r2), .unset, .unset, .unset, .unset, .unset, .unset, .unset, .unset, .unset, .unset, .unset, .unset] [(.long A0)])) _
    refine XS.aloadN X0.here hx rfl (hb hby d3_3) rfl rfl ?_
    show Steps p.tables e below (s₁.setTop (mkF m 4 #[.val (.ref r0), .val (.ref r1), .val (.ref r2), .unset, .unset, .unset, .unset, .unset, .unset, .unset, .unset, .unset, .unset, .unset, .unset] [(.ref r2), (.long A0)])) _
    refine XS.iconst X0.here hx rfl (hb hby d3_4) ?_
    show Steps p.tables e below (s₁.setTop (mkF m 5 #[.val (.ref r0), .val (.ref r1), .val (.ref r2), .unset, .unset, .unset, .unset, .unset, .unset, .unset, .unset, .unset, .unset, .unset, .unset] [(.int (0 : Int32)), (.ref r2), (.long A0)])) _
    refine own_ldJ X0 hx hZ e0 V2 (j := (0 : Int32)) (by decide) (v := (.long B0)) rfl (g := (mkF m 5 #[.val (.ref r0), .val (.ref r1), .val (.ref r2), .unset, .unset, .unset, .unset, .unset, .unset, .unset, .unset, .unset, .unset, .unset, .unset] [(.int (0 : Int32)), (.ref r2), (.long A0)])) rfl rfl (hb hby d3_5) _ ?_
    show Steps p.tables e below (s₁.setTop (mkF m 6 #[.val (.ref r0), .val (.ref r1), .val (.ref r2), .unset, .unset, .unset, .unset, .unset, .unset, .unset, .unset, .unset, .unset, .unset, .unset] [(.long B0), (.long A0)])) _
    refine XS.lsub X0.here hx rfl (hb hby d3_6) rfl ?_
    show Steps p.tables e below (s₁.setTop (mkF m 7 #[.val (.ref r0), .val (.ref r1), .val (.ref r2), .unset, .unset, .unset, .unset, .unset, .unset, .unset, .unset, .unset, .unset, .unset, .unset] [(.long (A0 - B0))])) _
    refine XS.lstoreN X0.here hx rfl (hb hby d3_7) rfl (l' := #[.val (.ref r0), .val (.ref r1), .val (.ref r2), .val (.long (A0 - B0)), .second, .unset, .unset, .unset, .unset, .unset, .unset, .unset, .unset, .unset, .unset]) rfl ?_
    show Steps p.tables e below (s₁.setTop (mkF m 8 #[.val (.ref r0), .val (.ref r1), .val (.ref r2), .val (.long (A0 - B0)), .second, .unset, .unset, .unset, .unset, .unset, .unset, .unset, .unset, .unset, .unset] [])) _
    exact k
  obtain ⟨t0, h_t0⟩ : ∃ z : Int64, z = (A0 - B0) := ⟨_, rfl⟩
  rw [← h_t0]
  refine own_go (T' := s₁) (g' := (mkF m 22 #[.val (.ref r0), .val (.ref r1), .val (.ref r2), .val (.long t0), .second, .val (.long ((A1 - B1) + (t0 >>> ((52 : Int32) &&& 0x3f).toInt64))), .second, .unset, .unset, .unset, .unset, .unset, .unset, .unset, .unset] [])) (fun t k => ?_) ?_
  · show Steps p.tables e below (s₁.setTop (mkF m 8 #[.val (.ref r0), .val (.ref r1), .val (.ref r2), .val (.long t0), .second, .unset, .unset, .unset, .unset, .unset, .unset, .unset, .unset, .unset, .unset] [])) t
    refine XS.aloadN X0.here hx rfl (hb hby d3_8) rfl rfl ?_
    show Steps p.tables e below (s₁.setTop (mkF m 9 #[.val (.ref r0), .val (.ref r1), .val (.ref r2), .val (.long t0), .second, .unset, .unset, .unset, .unset, .unset, .unset, .unset, .unset, .unset, .unset] [(.ref r1)])) _
    refine XS.iconst X0.here hx rfl (hb hby d3_9) ?_
    show Steps p.tables e below (s₁.setTop (mkF m 10 #[.val (.ref r0), .val (.ref r1), .val (.ref r2), .val (.long t0), .second, .unset, .unset, .unset, .unset, .unset, .unset, .unset, .unset, .unset, .unset] [(.int (1 : Int32)), (.ref r1)])) _
    refine own_ldJ X0 hx hZ e0 V1 (j := (1 : Int32)) (by decide) (v := (.long A1)) rfl (g := (mkF m 10 #[.val (.ref r0), .val (.ref r1), .val (.ref r2), .val (.long t0), .second, .unset, .unset, .unset, .unset, .unset, .unset, .unset, .unset, .unset, .unset] [(.int (1 : Int32)), (.ref r1)])) rfl rfl (hb hby d3_10) _ ?_
    show Steps p.tables e below (s₁.setTop (mkF m 11 #[.val (.ref r0), .val (.ref r1), .val (.ref r2), .val (.long t0), .second, .unset, .unset, .unset, .unset, .unset, .unset, .unset, .unset, .unset, .unset] [(.long A1)])) _
    refine XS.aloadN X0.here hx rfl (hb hby d3_11) rfl rfl ?_
    show Steps p.tables e below (s₁.setTop (mkF m 12 #[.val (.ref r0), .val (.ref r1), .val (.ref r2), .val (.long t0), .second, .unset, .unset, .unset, .unset, .unset, .unset, .unset, .unset, .unset, .unset] [(.ref r2), (.long A1)])) _
    refine XS.iconst X0.here hx rfl (hb hby d3_12) ?_
    show Steps p.tables e below (s₁.setTop (mkF m 13 #[.val (.ref r0), .val (.ref r1), .val (.ref r2), .val (.long t0), .second, .unset, .unset, .unset, .unset, .unset, .unset, .unset, .unset, .unset, .unset] [(.int (1 : Int32)), (.ref r2), (.long A1)])) _
    refine own_ldJ X0 hx hZ e0 V2 (j := (1 : Int32)) (by decide) (v := (.long B1)) rfl (g := (mkF m 13 #[.val (.ref r0), .val (.ref r1), .val (.ref r2), .val (.long t0), .second, .unset, .unset, .unset, .unset, .unset, .unset, .unset, .unset, .unset, .unset] [(.int (1 : Int32)), (.ref r2), (.long A1)])) rfl rfl (hb hby d3_13) _ ?_
    show Steps p.tables e below (s₁.setTop (mkF m 14 #[.val (.ref r0), .val (.ref r1), .val (.ref r2), .val (.long t0), .second, .unset, .unset, .unset, .unset, .unset, .unset, .unset, .unset, .unset, .unset] [(.long B1), (.long A1)])) _
    refine XS.lsub X0.here hx rfl (hb hby d3_14) rfl ?_
    show Steps p.tables e below (s₁.setTop (mkF m 15 #[.val (.ref r0), .val (.ref r1), .val (.ref r2), .val (.long t0), .second, .unset, .unset, .unset, .unset, .unset, .unset, .unset, .unset, .unset, .unset] [(.long (A1 - B1))])) _
    refine XS.lloadN X0.here hx rfl (hb hby d3_15) rfl ?_
    show Steps p.tables e below (s₁.setTop (mkF m 16 #[.val (.ref r0), .val (.ref r1), .val (.ref r2), .val (.long t0), .second, .unset, .unset, .unset, .unset, .unset, .unset, .unset, .unset, .unset, .unset] [(.long t0), (.long (A1 - B1))])) _
    refine XS.bipush X0.here hx rfl (hb hby d3_16) ?_
    show Steps p.tables e below (s₁.setTop (mkF m 18 #[.val (.ref r0), .val (.ref r1), .val (.ref r2), .val (.long t0), .second, .unset, .unset, .unset, .unset, .unset, .unset, .unset, .unset, .unset, .unset] [(.int (52 : Int32)), (.long t0), (.long (A1 - B1))])) _
    refine XS.lshr X0.here hx rfl (hb hby d3_18) rfl ?_
    show Steps p.tables e below (s₁.setTop (mkF m 19 #[.val (.ref r0), .val (.ref r1), .val (.ref r2), .val (.long t0), .second, .unset, .unset, .unset, .unset, .unset, .unset, .unset, .unset, .unset, .unset] [(.long (t0 >>> ((52 : Int32) &&& 0x3f).toInt64)), (.long (A1 - B1))])) _
    refine XS.ladd X0.here hx rfl (hb hby d3_19) rfl ?_
    show Steps p.tables e below (s₁.setTop (mkF m 20 #[.val (.ref r0), .val (.ref r1), .val (.ref r2), .val (.long t0), .second, .unset, .unset, .unset, .unset, .unset, .unset, .unset, .unset, .unset, .unset] [(.long ((A1 - B1) + (t0 >>> ((52 : Int32) &&& 0x3f).toInt64)))])) _
    refine XS.lstore X0.here hx rfl (hb hby d3_20) rfl (l' := #[.val (.ref r0), .val (.ref r1), .val (.ref r2), .val (.long t0), .second, .val (.long ((A1 - B1) + (t0 >>> ((52 : Int32) &&& 0x3f).toInt64))), .second, .unset, .unset, .unset, .unset, .unset, .unset, .unset, .unset]) rfl ?_
    show Steps p.tables e below (s₁.setTop (mkF m 22 #[.val (.ref r0), .val (.ref r1), .val (.ref r2), .val (.long t0), .second, .val (.long ((A1 - B1) + (t0 >>> ((52 : Int32) &&& 0x3f).toInt64))), .second, .unset, .unset, .unset, .unset, .unset, .unset, .unset, .unset] [])) _
    exact k
  obtain ⟨t1, h_t1⟩ : ∃ z : Int64, z = ((A1 - B1) + (t0 >>> ((52 : Int32) &&& 0x3f).toInt64)) := ⟨_, rfl⟩
  rw [← h_t1]
  refine own_go (T' := s₁) (g' := (mkF m 37 #[.val (.ref r0), .val (.ref r1), .val (.ref r2), .val (.long t0), .second, .val (.long t1), .second, .val (.long ((A2 - B2) + (t1 >>> ((52 : Int32) &&& 0x3f).toInt64))), .second, .unset, .unset, .unset, .unset, .unset, .unset] [])) (fun t k => ?_) ?_
  · show Steps p.tables e below (s₁.setTop (mkF m 22 #[.val (.ref r0), .val (.ref r1), .val (.ref r2), .val (.long t0), .second, .val (.long t1), .second, .unset, .unset, .unset, .unset, .unset, .unset, .unset, .unset] [])) t
    refine XS.aloadN X0.here hx rfl (hb hby d3_22) rfl rfl ?_
    show Steps p.tables e below (s₁.setTop (mkF m 23 #[.val (.ref r0), .val (.ref r1), .val (.ref r2), .val (.long t0), .second, .val (.long t1), .second, .unset, .unset, .unset, .unset, .unset, .unset, .unset, .unset] [(.ref r1)])) _
    refine XS.iconst X0.here hx rfl (hb hby d3_23) ?_
    show Steps p.tables e below (s₁.setTop (mkF m 24 #[.val (.ref r0), .val (.ref r1), .val (.ref r2), .val (.long t0), .second, .val (.long t1), .second, .unset, .unset, .unset, .unset, .unset, .unset, .unset, .unset] [(.int (2 : Int32)), (.ref r1)])) _
    refine own_ldJ X0 hx hZ e0 V1 (j := (2 : Int32)) (by decide) (v := (.long A2)) rfl (g := (mkF m 24 #[.val (.ref r0), .val (.ref r1), .val (.ref r2), .val (.long t0), .second, .val (.long t1), .second, .unset, .unset, .unset, .unset, .unset, .unset, .unset, .unset] [(.int (2 : Int32)), (.ref r1)])) rfl rfl (hb hby d3_24) _ ?_
    show Steps p.tables e below (s₁.setTop (mkF m 25 #[.val (.ref r0), .val (.ref r1), .val (.ref r2), .val (.long t0), .second, .val (.long t1), .second, .unset, .unset, .unset, .unset, .unset, .unset, .unset, .unset] [(.long A2)])) _
    refine XS.aloadN X0.here hx rfl (hb hby d3_25) rfl rfl ?_
    show Steps p.tables e below (s₁.setTop (mkF m 26 #[.val (.ref r0), .val (.ref r1), .val (.ref r2), .val (.long t0), .second, .val (.long t1), .second, .unset, .unset, .unset, .unset, .unset, .unset, .unset, .unset] [(.ref r2), (.long A2)])) _
    refine XS.iconst X0.here hx rfl (hb hby d3_26) ?_
    show Steps p.tables e below (s₁.setTop (mkF m 27 #[.val (.ref r0), .val (.ref r1), .val (.ref r2), .val (.long t0), .second, .val (.long t1), .second, .unset, .unset, .unset, .unset, .unset, .unset, .unset, .unset] [(.int (2 : Int32)), (.ref r2), (.long A2)])) _
    refine own_ldJ X0 hx hZ e0 V2 (j := (2 : Int32)) (by decide) (v := (.long B2)) rfl (g := (mkF m 27 #[.val (.ref r0), .val (.ref r1), .val (.ref r2), .val (.long t0), .second, .val (.long t1), .second, .unset, .unset, .unset, .unset, .unset, .unset, .unset, .unset] [(.int (2 : Int32)), (.ref r2), (.long A2)])) rfl rfl (hb hby d3_27) _ ?_
    show Steps p.tables e below (s₁.setTop (mkF m 28 #[.val (.ref r0), .val (.ref r1), .val (.ref r2), .val (.long t0), .second, .val (.long t1), .second, .unset, .unset, .unset, .unset, .unset, .unset, .unset, .unset] [(.long B2), (.long A2)])) _
    refine XS.lsub X0.here hx rfl (hb hby d3_28) rfl ?_
    show Steps p.tables e below (s₁.setTop (mkF m 29 #[.val (.ref r0), .val (.ref r1), .val (.ref r2), .val (.long t0), .second, .val (.long t1), .second, .unset, .unset, .unset, .unset, .unset, .unset, .unset, .unset] [(.long (A2 - B2))])) _
    refine XS.lload X0.here hx rfl (hb hby d3_29) rfl ?_
    show Steps p.tables e below (s₁.setTop (mkF m 31 #[.val (.ref r0), .val (.ref r1), .val (.ref r2), .val (.long t0), .second, .val (.long t1), .second, .unset, .unset, .unset, .unset, .unset, .unset, .unset, .unset] [(.long t1), (.long (A2 - B2))])) _
    refine XS.bipush X0.here hx rfl (hb hby d3_31) ?_
    show Steps p.tables e below (s₁.setTop (mkF m 33 #[.val (.ref r0), .val (.ref r1), .val (.ref r2), .val (.long t0), .second, .val (.long t1), .second, .unset, .unset, .unset, .unset, .unset, .unset, .unset, .unset] [(.int (52 : Int32)), (.long t1), (.long (A2 - B2))])) _
    refine XS.lshr X0.here hx rfl (hb hby d3_33) rfl ?_
    show Steps p.tables e below (s₁.setTop (mkF m 34 #[.val (.ref r0), .val (.ref r1), .val (.ref r2), .val (.long t0), .second, .val (.long t1), .second, .unset, .unset, .unset, .unset, .unset, .unset, .unset, .unset] [(.long (t1 >>> ((52 : Int32) &&& 0x3f).toInt64)), (.long (A2 - B2))])) _
    refine XS.ladd X0.here hx rfl (hb hby d3_34) rfl ?_
    show Steps p.tables e below (s₁.setTop (mkF m 35 #[.val (.ref r0), .val (.ref r1), .val (.ref r2), .val (.long t0), .second, .val (.long t1), .second, .unset, .unset, .unset, .unset, .unset, .unset, .unset, .unset] [(.long ((A2 - B2) + (t1 >>> ((52 : Int32) &&& 0x3f).toInt64)))])) _
    refine XS.lstore X0.here hx rfl (hb hby d3_35) rfl (l' := #[.val (.ref r0), .val (.ref r1), .val (.ref r2), .val (.long t0), .second, .val (.long t1), .second, .val (.long ((A2 - B2) + (t1 >>> ((52 : Int32) &&& 0x3f).toInt64))), .second, .unset, .unset, .unset, .unset, .unset, .unset]) rfl ?_
    show Steps p.tables e below (s₁.setTop (mkF m 37 #[.val (.ref r0), .val (.ref r1), .val (.ref r2), .val (.long t0), .second, .val (.long t1), .second, .val (.long ((A2 - B2) + (t1 >>> ((52 : Int32) &&& 0x3f).toInt64))), .second, .unset, .unset, .unset, .unset, .unset, .unset] [])) _
    exact k
  obtain ⟨t2, h_t2⟩ : ∃ z : Int64, z = ((A2 - B2) + (t1 >>> ((52 : Int32) &&& 0x3f).toInt64)) := ⟨_, rfl⟩
  rw [← h_t2]
  refine own_go (T' := s₁) (g' := (mkF m 52 #[.val (.ref r0), .val (.ref r1), .val (.ref r2), .val (.long t0), .second, .val (.long t1), .second, .val (.long t2), .second, .val (.long ((A3 - B3) + (t2 >>> ((52 : Int32) &&& 0x3f).toInt64))), .second, .unset, .unset, .unset, .unset] [])) (fun t k => ?_) ?_
  · show Steps p.tables e below (s₁.setTop (mkF m 37 #[.val (.ref r0), .val (.ref r1), .val (.ref r2), .val (.long t0), .second, .val (.long t1), .second, .val (.long t2), .second, .unset, .unset, .unset, .unset, .unset, .unset] [])) t
    refine XS.aloadN X0.here hx rfl (hb hby d3_37) rfl rfl ?_
    show Steps p.tables e below (s₁.setTop (mkF m 38 #[.val (.ref r0), .val (.ref r1), .val (.ref r2), .val (.long t0), .second, .val (.long t1), .second, .val (.long t2), .second, .unset, .unset, .unset, .unset, .unset, .unset] [(.ref r1)])) _
    refine XS.iconst X0.here hx rfl (hb hby d3_38) ?_
    show Steps p.tables e below (s₁.setTop (mkF m 39 #[.val (.ref r0), .val (.ref r1), .val (.ref r2), .val (.long t0), .second, .val (.long t1), .second, .val (.long t2), .second, .unset, .unset, .unset, .unset, .unset, .unset] [(.int (3 : Int32)), (.ref r1)])) _
    refine own_ldJ X0 hx hZ e0 V1 (j := (3 : Int32)) (by decide) (v := (.long A3)) rfl (g := (mkF m 39 #[.val (.ref r0), .val (.ref r1), .val (.ref r2), .val (.long t0), .second, .val (.long t1), .second, .val (.long t2), .second, .unset, .unset, .unset, .unset, .unset, .unset] [(.int (3 : Int32)), (.ref r1)])) rfl rfl (hb hby d3_39) _ ?_
    show Steps p.tables e below (s₁.setTop (mkF m 40 #[.val (.ref r0), .val (.ref r1), .val (.ref r2), .val (.long t0), .second, .val (.long t1), .second, .val (.long t2), .second, .unset, .unset, .unset, .unset, .unset, .unset] [(.long A3)])) _
    refine XS.aloadN X0.here hx rfl (hb hby d3_40) rfl rfl ?_
    show Steps p.tables e below (s₁.setTop (mkF m 41 #[.val (.ref r0), .val (.ref r1), .val (.ref r2), .val (.long t0), .second, .val (.long t1), .second, .val (.long t2), .second, .unset, .unset, .unset, .unset, .unset, .unset] [(.ref r2), (.long A3)])) _
    refine XS.iconst X0.here hx rfl (hb hby d3_41) ?_
    show Steps p.tables e below (s₁.setTop (mkF m 42 #[.val (.ref r0), .val (.ref r1), .val (.ref r2), .val (.long t0), .second, .val (.long t1), .second, .val (.long t2), .second, .unset, .unset, .unset, .unset, .unset, .unset] [(.int (3 : Int32)), (.ref r2), (.long A3)])) _
    refine own_ldJ X0 hx hZ e0 V2 (j := (3 : Int32)) (by decide) (v := (.long B3)) rfl (g := (mkF m 42 #[.val (.ref r0), .val (.ref r1), .val (.ref r2), .val (.long t0), .second, .val (.long t1), .second, .val (.long t2), .second, .unset, .unset, .unset, .unset, .unset, .unset] [(.int (3 : Int32)), (.ref r2), (.long A3)])) rfl rfl (hb hby d3_42) _ ?_
    show Steps p.tables e below (s₁.setTop (mkF m 43 #[.val (.ref r0), .val (.ref r1), .val (.ref r2), .val (.long t0), .second, .val (.long t1), .second, .val (.long t2), .second, .unset, .unset, .unset, .unset, .unset, .unset] [(.long B3), (.long A3)])) _
    refine XS.lsub X0.here hx rfl (hb hby d3_43) rfl ?_
    show Steps p.tables e below (s₁.setTop (mkF m 44 #[.val (.ref r0), .val (.ref r1), .val (.ref r2), .val (.long t0), .second, .val (.long t1), .second, .val (.long t2), .second, .unset, .unset, .unset, .unset, .unset, .unset] [(.long (A3 - B3))])) _
    refine XS.lload X0.here hx rfl (hb hby d3_44) rfl ?_
    show Steps p.tables e below (s₁.setTop (mkF m 46 #[.val (.ref r0), .val (.ref r1), .val (.ref r2), .val (.long t0), .second, .val (.long t1), .second, .val (.long t2), .second, .unset, .unset, .unset, .unset, .unset, .unset] [(.long t2), (.long (A3 - B3))])) _
    refine XS.bipush X0.here hx rfl (hb hby d3_46) ?_
    show Steps p.tables e below (s₁.setTop (mkF m 48 #[.val (.ref r0), .val (.ref r1), .val (.ref r2), .val (.long t0), .second, .val (.long t1), .second, .val (.long t2), .second, .unset, .unset, .unset, .unset, .unset, .unset] [(.int (52 : Int32)), (.long t2), (.long (A3 - B3))])) _
    refine XS.lshr X0.here hx rfl (hb hby d3_48) rfl ?_
    show Steps p.tables e below (s₁.setTop (mkF m 49 #[.val (.ref r0), .val (.ref r1), .val (.ref r2), .val (.long t0), .second, .val (.long t1), .second, .val (.long t2), .second, .unset, .unset, .unset, .unset, .unset, .unset] [(.long (t2 >>> ((52 : Int32) &&& 0x3f).toInt64)), (.long (A3 - B3))])) _
    refine XS.ladd X0.here hx rfl (hb hby d3_49) rfl ?_
    show Steps p.tables e below (s₁.setTop (mkF m 50 #[.val (.ref r0), .val (.ref r1), .val (.ref r2), .val (.long t0), .second, .val (.long t1), .second, .val (.long t2), .second, .unset, .unset, .unset, .unset, .unset, .unset] [(.long ((A3 - B3) + (t2 >>> ((52 : Int32) &&& 0x3f).toInt64)))])) _
    refine XS.lstore X0.here hx rfl (hb hby d3_50) rfl (l' := #[.val (.ref r0), .val (.ref r1), .val (.ref r2), .val (.long t0), .second, .val (.long t1), .second, .val (.long t2), .second, .val (.long ((A3 - B3) + (t2 >>> ((52 : Int32) &&& 0x3f).toInt64))), .second, .unset, .unset, .unset, .unset]) rfl ?_
    show Steps p.tables e below (s₁.setTop (mkF m 52 #[.val (.ref r0), .val (.ref r1), .val (.ref r2), .val (.long t0), .second, .val (.long t1), .second, .val (.long t2), .second, .val (.long ((A3 - B3) + (t2 >>> ((52 : Int32) &&& 0x3f).toInt64))), .second, .unset, .unset, .unset, .unset] [])) _
    exact k
  obtain ⟨t3, h_t3⟩ : ∃ z : Int64, z = ((A3 - B3) + (t2 >>> ((52 : Int32) &&& 0x3f).toInt64)) := ⟨_, rfl⟩
  rw [← h_t3]
  refine own_go (T' := s₁) (g' := (mkF m 67 #[.val (.ref r0), .val (.ref r1), .val (.ref r2), .val (.long t0), .second, .val (.long t1), .second, .val (.long t2), .second, .val (.long t3), .second, .val (.long ((A4 - B4) + (t3 >>> ((52 : Int32) &&& 0x3f).toInt64))), .second, .unset, .unset] [])) (fun t k => ?_) ?_
  · show Steps p.tables e below (s₁.setTop (mkF m 52 #[.val (.ref r0), .val (.ref r1), .val (.ref r2), .val (.long t0), .second, .val (.long t1), .second, .val (.long t2), .second, .val (.long t3), .second, .unset, .unset, .unset, .unset] [])) t
    refine XS.aloadN X0.here hx rfl (hb hby d3_52) rfl rfl ?_
    show Steps p.tables e below (s₁.setTop (mkF m 53 #[.val (.ref r0), .val (.ref r1), .val (.ref r2), .val (.long t0), .second, .val (.long t1), .second, .val (.long t2), .second, .val (.long t3), .second, .unset, .unset, .unset, .unset] [(.ref r1)])) _
    refine XS.iconst X0.here hx rfl (hb hby d3_53) ?_
    show Steps p.tables e below (s₁.setTop (mkF m 54 #[.val (.ref r0), .val (.ref r1), .val (.ref r2), .val (.long t0), .second, .val (.long t1), .second, .val (.long t2), .second, .val (.long t3), .second, .unset, .unset, .unset, .unset] [(.int (4 : Int32)), (.ref r1)])) _
    refine own_ldJ X0 hx hZ e0 V1 (j := (4 : Int32)) (by decide) (v := (.long A4)) rfl (g := (mkF m 54 #[.val (.ref r0), .val (.ref r1), .val (.ref r2), .val (.long t0), .second, .val (.long t1), .second, .val (.long t2), .second, .val (.long t3), .second, .unset, .unset, .unset, .unset] [(.int (4 : Int32)), (.ref r1)])) rfl rfl (hb hby d3_54) _ ?_
    show Steps p.tables e below (s₁.setTop (mkF m 55 #[.val (.ref r0), .val (.ref r1), .val (.ref r2), .val (.long t0), .second, .val (.long t1), .second, .val (.long t2), .second, .val (.long t3), .second, .unset, .unset, .unset, .unset] [(.long A4)])) _
    refine XS.aloadN X0.here hx rfl (hb hby d3_55) rfl rfl ?_
    show Steps p.tables e below (s₁.setTop (mkF m 56 #[.val (.ref r0), .val (.ref r1), .val (.ref r2), .val (.long t0), .second, .val (.long t1), .second, .val (.long t2), .second, .val (.long t3), .second, .unset, .unset, .unset, .unset] [(.ref r2), (.long A4)])) _
    refine XS.iconst X0.here hx rfl (hb hby d3_56) ?_
    show Steps p.tables e below (s₁.setTop (mkF m 57 #[.val (.ref r0), .val (.ref r1), .val (.ref r2), .val (.long t0), .second, .val (.long t1), .second, .val (.long t2), .second, .val (.long t3), .second, .unset, .unset, .unset, .unset] [(.int (4 : Int32)), (.ref r2), (.long A4)])) _
    refine own_ldJ X0 hx hZ e0 V2 (j := (4 : Int32)) (by decide) (v := (.long B4)) rfl (g := (mkF m 57 #[.val (.ref r0), .val (.ref r1), .val (.ref r2), .val (.long t0), .second, .val (.long t1), .second, .val (.long t2), .second, .val (.long t3), .second, .unset, .unset, .unset, .unset] [(.int (4 : Int32)), (.ref r2), (.long A4)])) rfl rfl (hb hby d3_57) _ ?_
    show Steps p.tables e below (s₁.setTop (mkF m 58 #[.val (.ref r0), .val (.ref r1), .val (.ref r2), .val (.long t0), .second, .val (.long t1), .second, .val (.long t2), .second, .val (.long t3), .second, .unset, .unset, .unset, .unset] [(.long B4), (.long A4)])) _
    refine XS.lsub X0.here hx rfl (hb hby d3_58) rfl ?_
    show Steps p.tables e below (s₁.setTop (mkF m 59 #[.val (.ref r0), .val (.ref r1), .val (.ref r2), .val (.long t0), .second, .val (.long t1), .second, .val (.long t2), .second, .val (.long t3), .second, .unset, .unset, .unset, .unset] [(.long (A4 - B4))])) _
    refine XS.lload X0.here hx rfl (hb hby d3_59) rfl ?_
    show Steps p.tables e below (s₁.setTop (mkF m 61 #[.val (.ref r0), .val (.ref r1), .val (.ref r2), .val (.long t0), .second, .val (.long t1), .second, .val (.long t2), .second, .val (.long t3), .second, .unset, .unset, .unset, .unset] [(.long t3), (.long (A4 - B4))])) _
    refine XS.bipush X0.here hx rfl (hb hby d3_61) ?_
    show Steps p.tables e below (s₁.setTop (mkF m 63 #[.val (.ref r0), .val (.ref r1), .val (.ref r2), .val (.long t0), .second, .val (.long t1), .second, .val (.long t2), .second, .val (.long t3), .second, .unset, .unset, .unset, .unset] [(.int (52 : Int32)), (.long t3), (.long (A4 - B4))])) _
    refine XS.lshr X0.here hx rfl (hb hby d3_63) rfl ?_
    show Steps p.tables e below (s₁.setTop (mkF m 64 #[.val (.ref r0), .val (.ref r1), .val (.ref r2), .val (.long t0), .second, .val (.long t1), .second, .val (.long t2), .second, .val (.long t3), .second, .unset, .unset, .unset, .unset] [(.long (t3 >>> ((52 : Int32) &&& 0x3f).toInt64)), (.long (A4 - B4))])) _
    refine XS.ladd X0.here hx rfl (hb hby d3_64) rfl ?_
    show Steps p.tables e below (s₁.setTop (mkF m 65 #[.val (.ref r0), .val (.ref r1), .val (.ref r2), .val (.long t0), .second, .val (.long t1), .second, .val (.long t2), .second, .val (.long t3), .second, .unset, .unset, .unset, .unset] [(.long ((A4 - B4) + (t3 >>> ((52 : Int32) &&& 0x3f).toInt64)))])) _
    refine XS.lstore X0.here hx rfl (hb hby d3_65) rfl (l' := #[.val (.ref r0), .val (.ref r1), .val (.ref r2), .val (.long t0), .second, .val (.long t1), .second, .val (.long t2), .second, .val (.long t3), .second, .val (.long ((A4 - B4) + (t3 >>> ((52 : Int32) &&& 0x3f).toInt64))), .second, .unset, .unset]) rfl ?_
    show Steps p.tables e below (s₁.setTop (mkF m 67 #[.val (.ref r0), .val (.ref r1), .val (.ref r2), .val (.long t0), .second, .val (.long t1), .second, .val (.long t2), .second, .val (.long t3), .second, .val (.long ((A4 - B4) + (t3 >>> ((52 : Int32) &&& 0x3f).toInt64))), .second, .unset, .unset] [])) _
    exact k
  obtain ⟨t4, h_t4⟩ : ∃ z : Int64, z = ((A4 - B4) + (t3 >>> ((52 : Int32) &&& 0x3f).toInt64)) := ⟨_, rfl⟩
  rw [← h_t4]
  refine own_go (T' := s₁) (g' := (mkF m 74 #[.val (.ref r0), .val (.ref r1), .val (.ref r2), .val (.long t0), .second, .val (.long t1), .second, .val (.long t2), .second, .val (.long t3), .second, .val (.long t4), .second, .val (.long (t4 >>> ((63 : Int32) &&& 0x3f).toInt64)), .second] [])) (fun t k => ?_) ?_
  · show Steps p.tables e below (s₁.setTop (mkF m 67 #[.val (.ref r0), .val (.ref r1), .val (.ref r2), .val (.long t0), .second, .val (.long t1), .second, .val (.long t2), .second, .val (.long t3), .second, .val (.long t4), .second, .unset, .unset] [])) t
    refine XS.lload X0.here hx rfl (hb hby d3_67) rfl ?_
    show Steps p.tables e below (s₁.setTop (mkF m 69 #[.val (.ref r0), .val (.ref r1), .val (.ref r2), .val (.long t0), .second, .val (.long t1), .second, .val (.long t2), .second, .val (.long t3), .second, .val (.long t4), .second, .unset, .unset] [(.long t4)])) _
    refine XS.bipush X0.here hx rfl (hb hby d3_69) ?_
    show Steps p.tables e below (s₁.setTop (mkF m 71 #[.val (.ref r0), .val (.ref r1), .val (.ref r2), .val (.long t0), .second, .val (.long t1), .second, .val (.long t2), .second, .val (.long t3), .second, .val (.long t4), .second, .unset, .unset] [(.int (63 : Int32)), (.long t4)])) _
    refine XS.lshr X0.here hx rfl (hb hby d3_71) rfl ?_
    show Steps p.tables e below (s₁.setTop (mkF m 72 #[.val (.ref r0), .val (.ref r1), .val (.ref r2), .val (.long t0), .second, .val (.long t1), .second, .val (.long t2), .second, .val (.long t3), .second, .val (.long t4), .second, .unset, .unset] [(.long (t4 >>> ((63 : Int32) &&& 0x3f).toInt64))])) _
    refine XS.lstore X0.here hx rfl (hb hby d3_72) rfl (l' := #[.val (.ref r0), .val (.ref r1), .val (.ref r2), .val (.long t0), .second, .val (.long t1), .second, .val (.long t2), .second, .val (.long t3), .second, .val (.long t4), .second, .val (.long (t4 >>> ((63 : Int32) &&& 0x3f).toInt64)), .second]) rfl ?_
    show Steps p.tables e below (s₁.setTop (mkF m 74 #[.val (.ref r0), .val (.ref r1), .val (.ref r2), .val (.long t0), .second, .val (.long t1), .second, .val (.long t2), .second, .val (.long t3), .second, .val (.long t4), .second, .val (.long (t4 >>> ((63 : Int32) &&& 0x3f).toInt64)), .second] [])) _
    exact k
  obtain ⟨m1, h_m1⟩ : ∃ z : Int64, z = (t4 >>> ((63 : Int32) &&& 0x3f).toInt64) := ⟨_, rfl⟩
  rw [← h_m1]
  refine own_go (T' := s₁) (g' := (mkF m 87 #[.val (.ref r0), .val (.ref r1), .val (.ref r2), .val (.long ((t0 &&& (4503599627370495 : Int64)) + ((4503599627370495 : Int64) &&& m1))), .second, .val (.long t1), .second, .val (.long t2), .second, .val (.long t3), .second, .val (.long t4), .second, .val (.long m1), .second] [])) (fun t k => ?_) ?_
  · show Steps p.tables e below (s₁.setTop (mkF m 74 #[.val (.ref r0), .val (.ref r1), .val (.ref r2), .val (.long t0), .second, .val (.long t1), .second, .val (.long t2), .second, .val (.long t3), .second, .val (.long t4), .second, .val (.long m1), .second] [])) t
    refine XS.lloadN X0.here hx rfl (hb hby d3_74) rfl ?_
    show Steps p.tables e below (s₁.setTop (mkF m 75 #[.val (.ref r0), .val (.ref r1), .val (.ref r2), .val (.long t0), .second, .val (.long t1), .second, .val (.long t2), .second, .val (.long t3), .second, .val (.long t4), .second, .val (.long m1), .second] [(.long t0)])) _
    refine X0.ldc2Long hx hown (mvT hZ (hw _ (List.mem_of_getElem? (i := 18) rfl))) (g := (mkF m 75 #[.val (.ref r0), .val (.ref r1), .val (.ref r2), .val (.long t0), .second, .val (.long t1), .second, .val (.long t2), .second, .val (.long t3), .second, .val (.long t4), .second, .val (.long m1), .second] [(.long t0)])) rfl (hb hby d3_75) _ ?_
    show Steps p.tables e below (s₁.setTop (mkF m 78 #[.val (.ref r0), .val (.ref r1), .val (.ref r2), .val (.long t0), .second, .val (.long t1), .second, .val (.long t2), .second, .val (.long t3), .second, .val (.long t4), .second, .val (.long m1), .second] [(.long (4503599627370495 : Int64)), (.long t0)])) _
    refine XS.land X0.here hx rfl (hb hby d3_78) rfl ?_
    show Steps p.tables e below (s₁.setTop (mkF m 79 #[.val (.ref r0), .val (.ref r1), .val (.ref r2), .val (.long t0), .second, .val (.long t1), .second, .val (.long t2), .second, .val (.long t3), .second, .val (.long t4), .second, .val (.long m1), .second] [(.long (t0 &&& (4503599627370495 : Int64)))])) _
    refine X0.ldc2Long hx hown (mvT hZ (hw _ (List.mem_of_getElem? (i := 18) rfl))) (g := (mkF m 79 #[.val (.ref r0), .val (.ref r1), .val (.ref r2), .val (.long t0), .second, .val (.long t1), .second, .val (.long t2), .second, .val (.long t3), .second, .val (.long t4), .second, .val (.long m1), .second] [(.long (t0 &&& (4503599627370495 : Int64)))])) rfl (hb hby d3_79) _ ?_
    show Steps p.tables e below (s₁.setTop (mkF m 82 #[.val (.ref r0), .val (.ref r1), .val (.ref r2), .val (.long t0), .second, .val (.long t1), .second, .val (.long t2), .second, .val (.long t3), .second, .val (.long t4), .second, .val (.long m1), .second] [(.long (4503599627370495 : Int64)), (.long (t0 &&& (4503599627370495 : Int64)))])) _
    refine XS.lload X0.here hx rfl (hb hby d3_82) rfl ?_
    show Steps p.tables e below (s₁.setTop (mkF m 84 #[.val (.ref r0), .val (.ref r1), .val (.ref r2), .val (.long t0), .second, .val (.long t1), .second, .val (.long t2), .second, .val (.long t3), .second, .val (.long t4), .second, .val (.long m1), .second] [(.long m1), (.long (4503599627370495 : Int64)), (.long (t0 &&& (4503599627370495 : Int64)))])) _
    refine XS.land X0.here hx rfl (hb hby d3_84) rfl ?_
    show Steps p.tables e below (s₁.setTop (mkF m 85 #[.val (.ref r0), .val (.ref r1), .val (.ref r2), .val (.long t0), .second, .val (.long t1), .second, .val (.long t2), .second, .val (.long t3), .second, .val (.long t4), .second, .val (.long m1), .second] [(.long ((4503599627370495 : Int64) &&& m1)), (.long (t0 &&& (4503599627370495 : Int64)))])) _
    refine XS.ladd X0.here hx rfl (hb hby d3_85) rfl ?_
    show Steps p.tables e below (s₁.setTop (mkF m 86 #[.val (.ref r0), .val (.ref r1), .val (.ref r2), .val (.long t0), .second, .val (.long t1), .second, .val (.long t2), .second, .val (.long t3), .second, .val (.long t4), .second, .val (.long m1), .second] [(.long ((t0 &&& (4503599627370495 : Int64)) + ((4503599627370495 : Int64) &&& m1)))])) _
    refine XS.lstoreN X0.here hx rfl (hb hby d3_86) rfl (l' := #[.val (.ref r0), .val (.ref r1), .val (.ref r2), .val (.long ((t0 &&& (4503599627370495 : Int64)) + ((4503599627370495 : Int64) &&& m1))), .second, .val (.long t1), .second, .val (.long t2), .second, .val (.long t3), .second, .val (.long t4), .second, .val (.long m1), .second]) rfl ?_
    show Steps p.tables e below (s₁.setTop (mkF m 87 #[.val (.ref r0), .val (.ref r1), .val (.ref r2), .val (.long ((t0 &&& (4503599627370495 : Int64)) + ((4503599627370495 : Int64) &&& m1))), .second, .val (.long t1), .second, .val (.long t2), .second, .val (.long t3), .second, .val (.long t4), .second, .val (.long m1), .second] [])) _
    exact k
  obtain ⟨u0, h_u0⟩ : ∃ z : Int64, z = ((t0 &&& (4503599627370495 : Int64)) + ((4503599627370495 : Int64) &&& m1)) := ⟨_, rfl⟩
  rw [← h_u0]
  refine own_go (T' := s₁) (g' := (mkF m 107 #[.val (.ref r0), .val (.ref r1), .val (.ref r2), .val (.long u0), .second, .val (.long (((t1 &&& (4503599627370495 : Int64)) + ((17592186044415 : Int64) &&& m1)) + (u0 >>> ((52 : Int32) &&& 0x3f).toInt64))), .second, .val (.long t2), .second, .val (.long t3), .second, .val (.long t4), .second, .val (.long m1), .second] [])) (fun t k => ?_) ?_
  · show Steps p.tables e below (s₁.setTop (mkF m 87 #[.val (.ref r0), .val (.ref r1), .val (.ref r2), .val (.long u0), .second, .val (.long t1), .second, .val (.long t2), .second, .val (.long t3), .second, .val (.long t4), .second, .val (.long m1), .second] [])) t
    refine XS.lload X0.here hx rfl (hb hby d3_87) rfl ?_
    show Steps p.tables e below (s₁.setTop (mkF m 89 #[.val (.ref r0), .val (.ref r1), .val (.ref r2), .val (.long u0), .second, .val (.long t1), .second, .val (.long t2), .second, .val (.long t3), .second, .val (.long t4), .second, .val (.long m1), .second] [(.long t1)])) _
    refine X0.ldc2Long hx hown (mvT hZ (hw _ (List.mem_of_getElem? (i := 18) rfl))) (g := (mkF m 89 #[.val (.ref r0), .val (.ref r1), .val (.ref r2), .val (.long u0), .second, .val (.long t1), .second, .val (.long t2), .second, .val (.long t3), .second, .val (.long t4), .second, .val (.long m1), .second] [(.long t1)])) rfl (hb hby d3_89) _ ?_
    show Steps p.tables e below (s₁.setTop (mkF m 92 #[.val (.ref r0), .val (.ref r1), .val (.ref r2), .val (.long u0), .second, .val (.long t1), .second, .val (.long t2), .second, .val (.long t3), .second, .val (.long t4), .second, .val (.long m1), .second] [(.long (4503599627370495 : Int64)), (.long t1)])) _
    refine XS.land X0.here hx rfl (hb hby d3_92) rfl ?_
    show Steps p.tables e below (s₁.setTop (mkF m 93 #[.val (.ref r0), .val (.ref r1), .val (.ref r2), .val (.long u0), .second, .val (.long t1), .second, .val (.long t2), .second, .val (.long t3), .second, .val (.long t4), .second, .val (.long m1), .second] [(.long (t1 &&& (4503599627370495 : Int64)))])) _
    refine X0.ldc2Long hx hown (mvT hZ (hw _ (List.mem_of_getElem? (i := 19) rfl))) (g := (mkF m 93 #[.val (.ref r0), .val (.ref r1), .val (.ref r2), .val (.long u0), .second, .val (.long t1), .second, .val (.long t2), .second, .val (.long t3), .second, .val (.long t4), .second, .val (.long m1), .second] [(.long (t1 &&& (4503599627370495 : Int64)))])) rfl (hb hby d3_93) _ ?_
    show Steps p.tables e below (s₁.setTop (mkF m 96 #[.val (.ref r0), .val (.ref r1), .val (.ref r2), .val (.long u0), .second, .val (.long t1), .second, .val (.long t2), .second, .val (.long t3), .second, .val (.long t4), .second, .val (.long m1), .second] [(.long (17592186044415 : Int64)), (.long (t1 &&& (4503599627370495 : Int64)))])) _
    refine XS.lload X0.here hx rfl (hb hby d3_96) rfl ?_
    show Steps p.tables e below (s₁.setTop (mkF m 98 #[.val (.ref r0), .val (.ref r1), .val (.ref r2), .val (.long u0), .second, .val (.long t1), .second, .val (.long t2), .second, .val (.long t3), .second, .val (.long t4), .second, .val (.long m1), .second] [(.long m1), (.long (17592186044415 : Int64)), (.long (t1 &&& (4503599627370495 : Int64)))])) _
    refine XS.land X0.here hx rfl (hb hby d3_98) rfl ?_
    show Steps p.tables e below (s₁.setTop (mkF m 99 #[.val (.ref r0), .val (.ref r1), .val (.ref r2), .val (.long u0), .second, .val (.long t1), .second, .val (.long t2), .second, .val (.long t3), .second, .val (.long t4), .second, .val (.long m1), .second] [(.long ((17592186044415 : Int64) &&& m1)), (.long (t1 &&& (4503599627370495 : Int64)))])) _
    refine XS.ladd X0.here hx rfl (hb hby d3_99) rfl ?_
    show Steps p.tables e below (s₁.setTop (mkF m 100 #[.val (.ref r0), .val (.ref r1), .val (.ref r2), .val (.long u0), .second, .val (.long t1), .second, .val (.long t2), .second, .val (.long t3), .second, .val (.long t4), .second, .val (.long m1), .second] [(.long ((t1 &&& (4503599627370495 : Int64)) + ((17592186044415 : Int64) &&& m1)))])) _
    refine XS.lloadN X0.here hx rfl (hb hby d3_100) rfl ?_
    show Steps p.tables e below (s₁.setTop (mkF m 101 #[.val (.ref r0), .val (.ref r1), .val (.ref r2), .val (.long u0), .second, .val (.long t1), .second, .val (.long t2), .second, .val (.long t3), .second, .val (.long t4), .second, .val (.long m1), .second] [(.long u0), (.long ((t1 &&& (4503599627370495 : Int64)) + ((17592186044415 : Int64) &&& m1)))])) _
    refine XS.bipush X0.here hx rfl (hb hby d3_101) ?_
    show Steps p.tables e below (s₁.setTop (mkF m 103 #[.val (.ref r0), .val (.ref r1), .val (.ref r2), .val (.long u0), .second, .val (.long t1), .second, .val (.long t2), .second, .val (.long t3), .second, .val (.long t4), .second, .val (.long m1), .second] [(.int (52 : Int32)), (.long u0), (.long ((t1 &&& (4503599627370495 : Int64)) + ((17592186044415 : Int64) &&& m1)))])) _
    refine XS.lshr X0.here hx rfl (hb hby d3_103) rfl ?_
    show Steps p.tables e below (s₁.setTop (mkF m 104 #[.val (.ref r0), .val (.ref r1), .val (.ref r2), .val (.long u0), .second, .val (.long t1), .second, .val (.long t2), .second, .val (.long t3), .second, .val (.long t4), .second, .val (.long m1), .second] [(.long (u0 >>> ((52 : Int32) &&& 0x3f).toInt64)), (.long ((t1 &&& (4503599627370495 : Int64)) + ((17592186044415 : Int64) &&& m1)))])) _
    refine XS.ladd X0.here hx rfl (hb hby d3_104) rfl ?_
    show Steps p.tables e below (s₁.setTop (mkF m 105 #[.val (.ref r0), .val (.ref r1), .val (.ref r2), .val (.long u0), .second, .val (.long t1), .second, .val (.long t2), .second, .val (.long t3), .second, .val (.long t4), .second, .val (.long m1), .second] [(.long (((t1 &&& (4503599627370495 : Int64)) + ((17592186044415 : Int64) &&& m1)) + (u0 >>> ((52 : Int32) &&& 0x3f).toInt64)))])) _
    refine XS.lstore X0.here hx rfl (hb hby d3_105) rfl (l' := #[.val (.ref r0), .val (.ref r1), .val (.ref r2), .val (.long u0), .second, .val (.long (((t1 &&& (4503599627370495 : Int64)) + ((17592186044415 : Int64) &&& m1)) + (u0 >>> ((52 : Int32) &&& 0x3f).toInt64))), .second, .val (.long t2), .second, .val (.long t3), .second, .val (.long t4), .second, .val (.long m1), .second]) rfl ?_
    show Steps p.tables e below (s₁.setTop (mkF m 107 #[.val (.ref r0), .val (.ref r1), .val (.ref r2), .val (.long u0), .second, .val (.long (((t1 &&& (4503599627370495 : Int64)) + ((17592186044415 : Int64) &&& m1)) + (u0 >>> ((52 : Int32) &&& 0x3f).toInt64))), .second, .val (.long t2), .second, .val (.long t3), .second, .val (.long t4), .second, .val (.long m1), .second] [])) _
    exact k
  obtain ⟨u1, h_u1⟩ : ∃ z : Int64, z = (((t1 &&& (4503599627370495 : Int64)) + ((17592186044415 : Int64) &&& m1)) + (u0 >>> ((52 : Int32) &&& 0x3f).toInt64)) := ⟨_, rfl⟩
  rw [← h_u1]
  refine own_go (T' := s₁) (g' := (mkF m 121 #[.val (.ref r0), .val (.ref r1), .val (.ref r2), .val (.long u0), .second, .val (.long u1), .second, .val (.long ((t2 &&& (4503599627370495 : Int64)) + (u1 >>> ((52 : Int32) &&& 0x3f).toInt64))), .second, .val (.long t3), .second, .val (.long t4), .second, .val (.long m1), .second] [])) (fun t k => ?_) ?_
  · show Steps p.tables e below (s₁.setTop (mkF m 107 #[.val (.ref r0), .val (.ref r1), .val (.ref r2), .val (.long u0), .second, .val (.long u1), .second, .val (.long t2), .second, .val (.long t3), .second, .val (.long t4), .second, .val (.long m1), .second] [])) t
    refine XS.lload X0.here hx rfl (hb hby d3_107) rfl ?_
    show Steps p.tables e below (s₁.setTop (mkF m 109 #[.val (.ref r0), .val (.ref r1), .val (.ref r2), .val (.long u0), .second, .val (.long u1), .second, .val (.long t2), .second, .val (.long t3), .second, .val (.long t4), .second, .val (.long m1), .second] [(.long t2)])) _
    refine X0.ldc2Long hx hown (mvT hZ (hw _ (List.mem_of_getElem? (i := 18) rfl))) (g := (mkF m 109 #[.val (.ref r0), .val (.ref r1), .val (.ref r2), .val (.long u0), .second, .val (.long u1), .second, .val (.long t2), .second, .val (.long t3), .second, .val (.long t4), .second, .val (.long m1), .second] [(.long t2)])) rfl (hb hby d3_109) _ ?_
    show Steps p.tables e below (s₁.setTop (mkF m 112 #[.val (.ref r0), .val (.ref r1), .val (.ref r2), .val (.long u0), .second, .val (.long u1), .second, .val (.long t2), .second, .val (.long t3), .second, .val (.long t4), .second, .val (.long m1), .second] [(.long (4503599627370495 : Int64)), (.long t2)])) _
    refine XS.land X0.here hx rfl (hb hby d3_112) rfl ?_
    show Steps p.tables e below (s₁.setTop (mkF m 113 #[.val (.ref r0), .val (.ref r1), .val (.ref r2), .val (.long u0), .second, .val (.long u1), .second, .val (.long t2), .second, .val (.long t3), .second, .val (.long t4), .second, .val (.long m1), .second] [(.long (t2 &&& (4503599627370495 : Int64)))])) _
    refine XS.lload X0.here hx rfl (hb hby d3_113) rfl ?_
    show Steps p.tables e below (s₁.setTop (mkF m 115 #[.val (.ref r0), .val (.ref r1), .val (.ref r2), .val (.long u0), .second, .val (.long u1), .second, .val (.long t2), .second, .val (.long t3), .second, .val (.long t4), .second, .val (.long m1), .second] [(.long u1), (.long (t2 &&& (4503599627370495 : Int64)))])) _
    refine XS.bipush X0.here hx rfl (hb hby d3_115) ?_
    show Steps p.tables e below (s₁.setTop (mkF m 117 #[.val (.ref r0), .val (.ref r1), .val (.ref r2), .val (.long u0), .second, .val (.long u1), .second, .val (.long t2), .second, .val (.long t3), .second, .val (.long t4), .second, .val (.long m1), .second] [(.int (52 : Int32)), (.long u1), (.long (t2 &&& (4503599627370495 : Int64)))])) _
    refine XS.lshr X0.here hx rfl (hb hby d3_117) rfl ?_
    show Steps p.tables e below (s₁.setTop (mkF m 118 #[.val (.ref r0), .val (.ref r1), .val (.ref r2), .val (.long u0), .second, .val (.long u1), .second, .val (.long t2), .second, .val (.long t3), .second, .val (.long t4), .second, .val (.long m1), .second] [(.long (u1 >>> ((52 : Int32) &&& 0x3f).toInt64)), (.long (t2 &&& (4503599627370495 : Int64)))])) _
    refine XS.ladd X0.here hx rfl (hb hby d3_118) rfl ?_
    show Steps p.tables e below (s₁.setTop (mkF m 119 #[.val (.ref r0), .val (.ref r1), .val (.ref r2), .val (.long u0), .second, .val (.long u1), .second, .val (.long t2), .second, .val (.long t3), .second, .val (.long t4), .second, .val (.long m1), .second] [(.long ((t2 &&& (4503599627370495 : Int64)) + (u1 >>> ((52 : Int32) &&& 0x3f).toInt64)))])) _
    refine XS.lstore X0.here hx rfl (hb hby d3_119) rfl (l' := #[.val (.ref r0), .val (.ref r1), .val (.ref r2), .val (.long u0), .second, .val (.long u1), .second, .val (.long ((t2 &&& (4503599627370495 : Int64)) + (u1 >>> ((52 : Int32) &&& 0x3f).toInt64))), .second, .val (.long t3), .second, .val (.long t4), .second, .val (.long m1), .second]) rfl ?_
    show Steps p.tables e below (s₁.setTop (mkF m 121 #[.val (.ref r0), .val (.ref r1), .val (.ref r2), .val (.long u0), .second, .val (.long u1), .second, .val (.long ((t2 &&& (4503599627370495 : Int64)) + (u1 >>> ((52 : Int32) &&& 0x3f).toInt64))), .second, .val (.long t3), .second, .val (.long t4), .second, .val (.long m1), .second] [])) _
    exact k
  obtain ⟨u2, h_u2⟩ : ∃ z : Int64, z = ((t2 &&& (4503599627370495 : Int64)) + (u1 >>> ((52 : Int32) &&& 0x3f).toInt64)) := ⟨_, rfl⟩
  rw [← h_u2]
  refine own_go (T' := s₁) (g' := (mkF m 142 #[.val (.ref r0), .val (.ref r1), .val (.ref r2), .val (.long u0), .second, .val (.long u1), .second, .val (.long u2), .second, .val (.long (((t3 &&& (4503599627370495 : Int64)) + ((68719476736 : Int64) &&& m1)) + (u2 >>> ((52 : Int32) &&& 0x3f).toInt64))), .second, .val (.long t4), .second, .val (.long m1), .second] [])) (fun t k => ?_) ?_
  · show Steps p.tables e below (s₁.setTop (mkF m 121 #[.val (.ref r0), .val (.ref r1), .val (.ref r2), .val (.long u0), .second, .val (.long u1), .second, .val (.long u2), .second, .val (.long t3), .second, .val (.long t4), .second, .val (.long m1), .second] [])) t
    refine XS.lload X0.here hx rfl (hb hby d3_121) rfl ?_
    show Steps p.tables e below (s₁.setTop (mkF m 123 #[.val (.ref r0), .val (.ref r1), .val (.ref r2), .val (.long u0), .second, .val (.long u1), .second, .val (.long u2), .second, .val (.long t3), .second, .val (.long t4), .second, .val (.long m1), .second] [(.long t3)])) _
    refine X0.ldc2Long hx hown (mvT hZ (hw _ (List.mem_of_getElem? (i := 18) rfl))) (g := (mkF m 123 #[.val (.ref r0), .val (.ref r1), .val (.ref r2), .val (.long u0), .second, .val (.long u1), .second, .val (.long u2), .second, .val (.long t3), .second, .val (.long t4), .second, .val (.long m1), .second] [(.long t3)])) rfl (hb hby d3_123) _ ?_
    show Steps p.tables e below (s₁.setTop (mkF m 126 #[.val (.ref r0), .val (.ref r1), .val (.ref r2), .val (.long u0), .second, .val (.long u1), .second, .val (.long u2), .second, .val (.long t3), .second, .val (.long t4), .second, .val (.long m1), .second] [(.long (4503599627370495 : Int64)), (.long t3)])) _
    refine XS.land X0.here hx rfl (hb hby d3_126) rfl ?_
    show Steps p.tables e below (s₁.setTop (mkF m 127 #[.val (.ref r0), .val (.ref r1), .val (.ref r2), .val (.long u0), .second, .val (.long u1), .second, .val (.long u2), .second, .val (.long t3), .second, .val (.long t4), .second, .val (.long m1), .second] [(.long (t3 &&& (4503599627370495 : Int64)))])) _
    refine X0.ldc2Long hx hown (mvT hZ (hw _ (List.mem_of_getElem? (i := 20) rfl))) (g := (mkF m 127 #[.val (.ref r0), .val (.ref r1), .val (.ref r2), .val (.long u0), .second, .val (.long u1), .second, .val (.long u2), .second, .val (.long t3), .second, .val (.long t4), .second, .val (.long m1), .second] [(.long (t3 &&& (4503599627370495 : Int64)))])) rfl (hb hby d3_127) _ ?_
    show Steps p.tables e below (s₁.setTop (mkF m 130 #[.val (.ref r0), .val (.ref r1), .val (.ref r2), .val (.long u0), .second, .val (.long u1), .second, .val (.long u2), .second, .val (.long t3), .second, .val (.long t4), .second, .val (.long m1), .second] [(.long (68719476736 : Int64)), (.long (t3 &&& (4503599627370495 : Int64)))])) _
    refine XS.lload X0.here hx rfl (hb hby d3_130) rfl ?_
    show Steps p.tables e below (s₁.setTop (mkF m 132 #[.val (.ref r0), .val (.ref r1), .val (.ref r2), .val (.long u0), .second, .val (.long u1), .second, .val (.long u2), .second, .val (.long t3), .second, .val (.long t4), .second, .val (.long m1), .second] [(.long m1), (.long (68719476736 : Int64)), (.long (t3 &&& (4503599627370495 : Int64)))])) _
    refine XS.land X0.here hx rfl (hb hby d3_132) rfl ?_
    show Steps p.tables e below (s₁.setTop (mkF m 133 #[.val (.ref r0), .val (.ref r1), .val (.ref r2), .val (.long u0), .second, .val (.long u1), .second, .val (.long u2), .second, .val (.long t3), .second, .val (.long t4), .second, .val (.long m1), .second] [(.long ((68719476736 : Int64) &&& m1)), (.long (t3 &&& (4503599627370495 : Int64)))])) _
    refine XS.ladd X0.here hx rfl (hb hby d3_133) rfl ?_
    show Steps p.tables e below (s₁.setTop (mkF m 134 #[.val (.ref r0), .val (.ref r1), .val (.ref r2), .val (.long u0), .second, .val (.long u1), .second, .val (.long u2), .second, .val (.long t3), .second, .val (.long t4), .second, .val (.long m1), .second] [(.long ((t3 &&& (4503599627370495 : Int64)) + ((68719476736 : Int64) &&& m1)))])) _
    refine XS.lload X0.here hx rfl (hb hby d3_134) rfl ?_
    show Steps p.tables e below (s₁.setTop (mkF m 136 #[.val (.ref r0), .val (.ref r1), .val (.ref r2), .val (.long u0), .second, .val (.long u1), .second, .val (.long u2), .second, .val (.long t3), .second, .val (.long t4), .second, .val (.long m1), .second] [(.long u2), (.long ((t3 &&& (4503599627370495 : Int64)) + ((68719476736 : Int64) &&& m1)))])) _
    refine XS.bipush X0.here hx rfl (hb hby d3_136) ?_
    show Steps p.tables e below (s₁.setTop (mkF m 138 #[.val (.ref r0), .val (.ref r1), .val (.ref r2), .val (.long u0), .second, .val (.long u1), .second, .val (.long u2), .second, .val (.long t3), .second, .val (.long t4), .second, .val (.long m1), .second] [(.int (52 : Int32)), (.long u2), (.long ((t3 &&& (4503599627370495 : Int64)) + ((68719476736 : Int64) &&& m1)))])) _
    refine XS.lshr X0.here hx rfl (hb hby d3_138) rfl ?_
    show Steps p.tables e below (s₁.setTop (mkF m 139 #[.val (.ref r0), .val (.ref r1), .val (.ref r2), .val (.long u0), .second, .val (.long u1), .second, .val (.long u2), .second, .val (.long t3), .second, .val (.long t4), .second, .val (.long m1), .second] [(.long (u2 >>> ((52 : Int32) &&& 0x3f).toInt64)), (.long ((t3 &&& (4503599627370495 : Int64)) + ((68719476736 : Int64) &&& m1)))])) _
    refine XS.ladd X0.here hx rfl (hb hby d3_139) rfl ?_
    show Steps p.tables e below (s₁.setTop (mkF m 140 #[.val (.ref r0), .val (.ref r1), .val (.ref r2), .val (.long u0), .second, .val (.long u1), .second, .val (.long u2), .second, .val (.long t3), .second, .val (.long t4), .second, .val (.long m1), .second] [(.long (((t3 &&& (4503599627370495 : Int64)) + ((68719476736 : Int64) &&& m1)) + (u2 >>> ((52 : Int32) &&& 0x3f).toInt64)))])) _
    refine XS.lstore X0.here hx rfl (hb hby d3_140) rfl (l' := #[.val (.ref r0), .val (.ref r1), .val (.ref r2), .val (.long u0), .second, .val (.long u1), .second, .val (.long u2), .second, .val (.long (((t3 &&& (4503599627370495 : Int64)) + ((68719476736 : Int64) &&& m1)) + (u2 >>> ((52 : Int32) &&& 0x3f).toInt64))), .second, .val (.long t4), .second, .val (.long m1), .second]) rfl ?_
    show Steps p.tables e below (s₁.setTop (mkF m 142 #[.val (.ref r0), .val (.ref r1), .val (.ref r2), .val (.long u0), .second, .val (.long u1), .second, .val (.long u2), .second, .val (.long (((t3 &&& (4503599627370495 : Int64)) + ((68719476736 : Int64) &&& m1)) + (u2 >>> ((52 : Int32) &&& 0x3f).toInt64))), .second, .val (.long t4), .second, .val (.long m1), .second] [])) _
    exact k
  obtain ⟨u3, h_u3⟩ : ∃ z : Int64, z = (((t3 &&& (4503599627370495 : Int64)) + ((68719476736 : Int64) &&& m1)) + (u2 >>> ((52 : Int32) &&& 0x3f).toInt64)) := ⟨_, rfl⟩
  rw [← h_u3]
  refine own_go (T' := s₁) (g' := (mkF m 159 #[.val (.ref r0), .val (.ref r1), .val (.ref r2), .val (.long u0), .second, .val (.long u1), .second, .val (.long u2), .second, .val (.long u3), .second, .val (.long ((t4 + ((281474976645120 : Int64) &&& m1)) + (u3 >>> ((52 : Int32) &&& 0x3f).toInt64))), .second, .val (.long m1), .second] [])) (fun t k => ?_) ?_
  · show Steps p.tables e below (s₁.setTop (mkF m 142 #[.val (.ref r0), .val (.ref r1), .val (.ref r2), .val (.long u0), .second, .val (.long u1), .second, .val (.long u2), .second, .val (.long u3), .second, .val (.long t4), .second, .val (.long m1), .second] [])) t
    refine XS.lload X0.here hx rfl (hb hby d3_142) rfl ?_
    show Steps p.tables e below (s₁.setTop (mkF m 144 #[.val (.ref r0), .val (.ref r1), .val (.ref r2), .val (.long u0), .second, .val (.long u1), .second, .val (.long u2), .second, .val (.long u3), .second, .val (.long t4), .second, .val (.long m1), .second] [(.long t4)])) _
    refine X0.ldc2Long hx hown (mvT hZ (hw _ (List.mem_of_getElem? (i := 21) rfl))) (g := (mkF m 144 #[.val (.ref r0), .val (.ref r1), .val (.ref r2), .val (.long u0), .second, .val (.long u1), .second, .val (.long u2), .second, .val (.long u3), .second, .val (.long t4), .second, .val (.long m1), .second] [(.long t4)])) rfl (hb hby d3_144) _ ?_
    show Steps p.tables e below (s₁.setTop (mkF m 147 #[.val (.ref r0), .val (.ref r1), .val (.ref r2), .val (.long u0), .second, .val (.long u1), .second, .val (.long u2), .second, .val (.long u3), .second, .val (.long t4), .second, .val (.long m1), .second] [(.long (281474976645120 : Int64)), (.long t4)])) _
    refine XS.lload X0.here hx rfl (hb hby d3_147) rfl ?_
    show Steps p.tables e below (s₁.setTop (mkF m 149 #[.val (.ref r0), .val (.ref r1), .val (.ref r2), .val (.long u0), .second, .val (.long u1), .second, .val (.long u2), .second, .val (.long u3), .second, .val (.long t4), .second, .val (.long m1), .second] [(.long m1), (.long (281474976645120 : Int64)), (.long t4)])) _
    refine XS.land X0.here hx rfl (hb hby d3_149) rfl ?_
    show Steps p.tables e below (s₁.setTop (mkF m 150 #[.val (.ref r0), .val (.ref r1), .val (.ref r2), .val (.long u0), .second, .val (.long u1), .second, .val (.long u2), .second, .val (.long u3), .second, .val (.long t4), .second, .val (.long m1), .second] [(.long ((281474976645120 : Int64) &&& m1)), (.long t4)])) _
    refine XS.ladd X0.here hx rfl (hb hby d3_150) rfl ?_
    show Steps p.tables e below (s₁.setTop (mkF m 151 #[.val (.ref r0), .val (.ref r1), .val (.ref r2), .val (.long u0), .second, .val (.long u1), .second, .val (.long u2), .second, .val (.long u3), .second, .val (.long t4), .second, .val (.long m1), .second] [(.long (t4 + ((281474976645120 : Int64) &&& m1)))])) _
    refine XS.lload X0.here hx rfl (hb hby d3_151) rfl ?_
    show Steps p.tables e below (s₁.setTop (mkF m 153 #[.val (.ref r0), .val (.ref r1), .val (.ref r2), .val (.long u0), .second, .val (.long u1), .second, .val (.long u2), .second, .val (.long u3), .second, .val (.long t4), .second, .val (.long m1), .second] [(.long u3), (.long (t4 + ((281474976645120 : Int64) &&& m1)))])) _
    refine XS.bipush X0.here hx rfl (hb hby d3_153) ?_
    show Steps p.tables e below (s₁.setTop (mkF m 155 #[.val (.ref r0), .val (.ref r1), .val (.ref r2), .val (.long u0), .second, .val (.long u1), .second, .val (.long u2), .second, .val (.long u3), .second, .val (.long t4), .second, .val (.long m1), .second] [(.int (52 : Int32)), (.long u3), (.long (t4 + ((281474976645120 : Int64) &&& m1)))])) _
    refine XS.lshr X0.here hx rfl (hb hby d3_155) rfl ?_
    show Steps p.tables e below (s₁.setTop (mkF m 156 #[.val (.ref r0), .val (.ref r1), .val (.ref r2), .val (.long u0), .second, .val (.long u1), .second, .val (.long u2), .second, .val (.long u3), .second, .val (.long t4), .second, .val (.long m1), .second] [(.long (u3 >>> ((52 : Int32) &&& 0x3f).toInt64)), (.long (t4 + ((281474976645120 : Int64) &&& m1)))])) _
    refine XS.ladd X0.here hx rfl (hb hby d3_156) rfl ?_
    show Steps p.tables e below (s₁.setTop (mkF m 157 #[.val (.ref r0), .val (.ref r1), .val (.ref r2), .val (.long u0), .second, .val (.long u1), .second, .val (.long u2), .second, .val (.long u3), .second, .val (.long t4), .second, .val (.long m1), .second] [(.long ((t4 + ((281474976645120 : Int64) &&& m1)) + (u3 >>> ((52 : Int32) &&& 0x3f).toInt64)))])) _
    refine XS.lstore X0.here hx rfl (hb hby d3_157) rfl (l' := #[.val (.ref r0), .val (.ref r1), .val (.ref r2), .val (.long u0), .second, .val (.long u1), .second, .val (.long u2), .second, .val (.long u3), .second, .val (.long ((t4 + ((281474976645120 : Int64) &&& m1)) + (u3 >>> ((52 : Int32) &&& 0x3f).toInt64))), .second, .val (.long m1), .second]) rfl ?_
    show Steps p.tables e below (s₁.setTop (mkF m 159 #[.val (.ref r0), .val (.ref r1), .val (.ref r2), .val (.long u0), .second, .val (.long u1), .second, .val (.long u2), .second, .val (.long u3), .second, .val (.long ((t4 + ((281474976645120 : Int64) &&& m1)) + (u3 >>> ((52 : Int32) &&& 0x3f).toInt64))), .second, .val (.long m1), .second] [])) _
    exact k
  obtain ⟨u4, h_u4⟩ : ∃ z : Int64, z = ((t4 + ((281474976645120 : Int64) &&& m1)) + (u3 >>> ((52 : Int32) &&& 0x3f).toInt64)) := ⟨_, rfl⟩
  rw [← h_u4]
  refine own_go (T' := s₁) (g' := (mkF m 166 #[.val (.ref r0), .val (.ref r1), .val (.ref r2), .val (.long u0), .second, .val (.long u1), .second, .val (.long u2), .second, .val (.long u3), .second, .val (.long u4), .second, .val (.long m1), .second] [(.long (u0 &&& (4503599627370495 : Int64))), (.int (0 : Int32)), (.ref r0)])) (fun t k => ?_) ?_
  · show Steps p.tables e below (s₁.setTop (mkF m 159 #[.val (.ref r0), .val (.ref r1), .val (.ref r2), .val (.long u0), .second, .val (.long u1), .second, .val (.long u2), .second, .val (.long u3), .second, .val (.long u4), .second, .val (.long m1), .second] [])) t
    refine XS.aloadN X0.here hx rfl (hb hby d3_159) rfl rfl ?_
    show Steps p.tables e below (s₁.setTop (mkF m 160 #[.val (.ref r0), .val (.ref r1), .val (.ref r2), .val (.long u0), .second, .val (.long u1), .second, .val (.long u2), .second, .val (.long u3), .second, .val (.long u4), .second, .val (.long m1), .second] [(.ref r0)])) _
    refine XS.iconst X0.here hx rfl (hb hby d3_160) ?_
    show Steps p.tables e below (s₁.setTop (mkF m 161 #[.val (.ref r0), .val (.ref r1), .val (.ref r2), .val (.long u0), .second, .val (.long u1), .second, .val (.long u2), .second, .val (.long u3), .second, .val (.long u4), .second, .val (.long m1), .second] [(.int (0 : Int32)), (.ref r0)])) _
    refine XS.lloadN X0.here hx rfl (hb hby d3_161) rfl ?_
    show Steps p.tables e below (s₁.setTop (mkF m 162 #[.val (.ref r0), .val (.ref r1), .val (.ref r2), .val (.long u0), .second, .val (.long u1), .second, .val (.long u2), .second, .val (.long u3), .second, .val (.long u4), .second, .val (.long m1), .second] [(.long u0), (.int (0 : Int32)), (.ref r0)])) _
    refine X0.ldc2Long hx hown (mvT hZ (hw _ (List.mem_of_getElem? (i := 18) rfl))) (g := (mkF m 162 #[.val (.ref r0), .val (.ref r1), .val (.ref r2), .val (.long u0), .second, .val (.long u1), .second, .val (.long u2), .second, .val (.long u3), .second, .val (.long u4), .second, .val (.long m1), .second] [(.long u0), (.int (0 : Int32)), (.ref r0)])) rfl (hb hby d3_162) _ ?_
    show Steps p.tables e below (s₁.setTop (mkF m 165 #[.val (.ref r0), .val (.ref r1), .val (.ref r2), .val (.long u0), .second, .val (.long u1), .second, .val (.long u2), .second, .val (.long u3), .second, .val (.long u4), .second, .val (.long m1), .second] [(.long (4503599627370495 : Int64)), (.long u0), (.int (0 : Int32)), (.ref r0)])) _
    refine XS.land X0.here hx rfl (hb hby d3_165) rfl ?_
    show Steps p.tables e below (s₁.setTop (mkF m 166 #[.val (.ref r0), .val (.ref r1), .val (.ref r2), .val (.long u0), .second, .val (.long u1), .second, .val (.long u2), .second, .val (.long u3), .second, .val (.long u4), .second, .val (.long m1), .second] [(.long (u0 &&& (4503599627370495 : Int64))), (.int (0 : Int32)), (.ref r0)])) _
    exact k
  obtain ⟨T1, h1, L1, X1, N1, e1, W1, Y1, st1⟩ := own_stJ X0 hx hZ e0 V0 (j := (0 : Int32)) (by decide) 0 rfl (Nat.le_of_ble_eq_true rfl) N0 ga_r0 (g := (mkF m 166 #[.val (.ref r0), .val (.ref r1), .val (.ref r2), .val (.long u0), .second, .val (.long u1), .second, .val (.long u2), .second, .val (.long u3), .second, .val (.long u4), .second, .val (.long m1), .second] [(.long (u0 &&& (4503599627370495 : Int64))), (.int (0 : Int32)), (.ref r0)])) rfl rfl (hb hby d3_166)
  have K1 := K0.wr W1 (Or.inl (List.mem_of_getElem? (i := 0) rfl))
  have V_r0_1 : Arv Z h1 r0 k0 .long (5 : Int32) [(.long (u0 &&& (4503599627370495 : Int64))), (.long O1), (.long O2), (.long O3), (.long O4)] (.long (0 : Int64)) := Y1
  have sz_1 := Nat.le_trans Z0 (Nat.le_of_eq (Wr.size W1).symm)
  refine own_go (T' := T1) (g' := (mkF m 167 #[.val (.ref r0), .val (.ref r1), .val (.ref r2), .val (.long u0), .second, .val (.long u1), .second, .val (.long u2), .second, .val (.long u3), .second, .val (.long u4), .second, .val (.long m1), .second] [])) st1 ?_
  refine own_go (T' := T1) (g' := (mkF m 175 #[.val (.ref r0), .val (.ref r1), .val (.ref r2), .val (.long u0), .second, .val (.long u1), .second, .val (.long u2), .second, .val (.long u3), .second, .val (.long u4), .second, .val (.long m1), .second] [(.long (u1 &&& (4503599627370495 : Int64))), (.int (1 : Int32)), (.ref r0)])) (fun t k => ?_) ?_
  · show Steps p.tables e below (T1.setTop (mkF m 167 #[.val (.ref r0), .val (.ref r1), .val (.ref r2), .val (.long u0), .second, .val (.long u1), .second, .val (.long u2), .second, .val (.long u3), .second, .val (.long u4), .second, .val (.long m1), .second] [])) t
    refine XS.aloadN X1.here hx rfl (hb hby d3_167) rfl rfl ?_
    show Steps p.tables e below (T1.setTop (mkF m 168 #[.val (.ref r0), .val (.ref r1), .val (.ref r2), .val (.long u0), .second, .val (.long u1), .second, .val (.long u2), .second, .val (.long u3), .second, .val (.long u4), .second, .val (.long m1), .second] [(.ref r0)])) _
    refine XS.iconst X1.here hx rfl (hb hby d3_168) ?_
    show Steps p.tables e below (T1.setTop (mkF m 169 #[.val (.ref r0), .val (.ref r1), .val (.ref r2), .val (.long u0), .second, .val (.long u1), .second, .val (.long u2), .second, .val (.long u3), .second, .val (.long u4), .second, .val (.long m1), .second] [(.int (1 : Int32)), (.ref r0)])) _
    refine XS.lload X1.here hx rfl (hb hby d3_169) rfl ?_
    show Steps p.tables e below (T1.setTop (mkF m 171 #[.val (.ref r0), .val (.ref r1), .val (.ref r2), .val (.long u0), .second, .val (.long u1), .second, .val (.long u2), .second, .val (.long u3), .second, .val (.long u4), .second, .val (.long m1), .second] [(.long u1), (.int (1 : Int32)), (.ref r0)])) _
    refine X1.ldc2Long hx hown (mvT hZ (hw _ (List.mem_of_getElem? (i := 18) rfl))) (g := (mkF m 171 #[.val (.ref r0), .val (.ref r1), .val (.ref r2), .val (.long u0), .second, .val (.long u1), .second, .val (.long u2), .second, .val (.long u3), .second, .val (.long u4), .second, .val (.long m1), .second] [(.long u1), (.int (1 : Int32)), (.ref r0)])) rfl (hb hby d3_171) _ ?_
    show Steps p.tables e below (T1.setTop (mkF m 174 #[.val (.ref r0), .val (.ref r1), .val (.ref r2), .val (.long u0), .second, .val (.long u1), .second, .val (.long u2), .second, .val (.long u3), .second, .val (.long u4), .second, .val (.long m1), .second] [(.long (4503599627370495 : Int64)), (.long u1), (.int (1 : Int32)), (.ref r0)])) _
    refine XS.land X1.here hx rfl (hb hby d3_174) rfl ?_
    show Steps p.tables e below (T1.setTop (mkF m 175 #[.val (.ref r0), .val (.ref r1), .val (.ref r2), .val (.long u0), .second, .val (.long u1), .second, .val (.long u2), .second, .val (.long u3), .second, .val (.long u4), .second, .val (.long m1), .second] [(.long (u1 &&& (4503599627370495 : Int64))), (.int (1 : Int32)), (.ref r0)])) _
    exact k
  obtain ⟨T2, h2, L2, X2, N2, e2, W2, Y2, st2⟩ := own_stJ X1 hx hZ e1 V_r0_1 (j := (1 : Int32)) (by decide) 1 rfl (Nat.le_of_ble_eq_true rfl) N1 ga_r0 (g := (mkF m 175 #[.val (.ref r0), .val (.ref r1), .val (.ref r2), .val (.long u0), .second, .val (.long u1), .second, .val (.long u2), .second, .val (.long u3), .second, .val (.long u4), .second, .val (.long m1), .second] [(.long (u1 &&& (4503599627370495 : Int64))), (.int (1 : Int32)), (.ref r0)])) rfl rfl (hb hby d3_175)
  have K2 := K1.wr W2 (Or.inl (List.mem_of_getElem? (i := 0) rfl))
  have V_r0_2 : Arv Z h2 r0 k0 .long (5 : Int32) [(.long (u0 &&& (4503599627370495 : Int64))), (.long (u1 &&& (4503599627370495 : Int64))), (.long O2), (.long O3), (.long O4)] (.long (0 : Int64)) := Y2
  have sz_2 := Nat.le_trans sz_1 (Nat.le_of_eq (Wr.size W2).symm)
  refine own_go (T' := T2) (g' := (mkF m 176 #[.val (.ref r0), .val (.ref r1), .val (.ref r2), .val (.long u0), .second, .val (.long u1), .second, .val (.long u2), .second, .val (.long u3), .second, .val (.long u4), .second, .val (.long m1), .second] [])) st2 ?_
  refine own_go (T' := T2) (g' := (mkF m 184 #[.val (.ref r0), .val (.ref r1), .val (.ref r2), .val (.long u0), .second, .val (.long u1), .second, .val (.long u2), .second, .val (.long u3), .second, .val (.long u4), .second, .val (.long m1), .second] [(.long (u2 &&& (4503599627370495 : Int64))), (.int (2 : Int32)), (.ref r0)])) (fun t k => ?_) ?_
  · show Steps p.tables e below (T2.setTop (mkF m 176 #[.val (.ref r0), .val (.ref r1), .val (.ref r2), .val (.long u0), .second, .val (.long u1), .second, .val (.long u2), .second, .val (.long u3), .second, .val (.long u4), .second, .val (.long m1), .second] [])) t
    refine XS.aloadN X2.here hx rfl (hb hby d3_176) rfl rfl ?_
    show Steps p.tables e below (T2.setTop (mkF m 177 #[.val (.ref r0), .val (.ref r1), .val (.ref r2), .val (.long u0), .second, .val (.long u1), .second, .val (.long u2), .second, .val (.long u3), .second, .val (.long u4), .second, .val (.long m1), .second] [(.ref r0)])) _
    refine XS.iconst X2.here hx rfl (hb hby d3_177) ?_
    show Steps p.tables e below (T2.setTop (mkF m 178 #[.val (.ref r0), .val (.ref r1), .val (.ref r2), .val (.long u0), .second, .val (.long u1), .second, .val (.long u2), .second, .val (.long u3), .second, .val (.long u4), .second, .val (.long m1), .second] [(.int (2 : Int32)), (.ref r0)])) _
    refine XS.lload X2.here hx rfl (hb hby d3_178) rfl ?_
    show Steps p.tables e below (T2.setTop (mkF m 180 #[.val (.ref r0), .val (.ref r1), .val (.ref r2), .val (.long u0), .second, .val (.long u1), .second, .val (.long u2), .second, .val (.long u3), .second, .val (.long u4), .second, .val (.long m1), .second] [(.long u2), (.int (2 : Int32)), (.ref r0)])) _
    refine X2.ldc2Long hx hown (mvT hZ (hw _ (List.mem_of_getElem? (i := 18) rfl))) (g := (mkF m 180 #[.val (.ref r0), .val (.ref r1), .val (.ref r2), .val (.long u0), .second, .val (.long u1), .second, .val (.long u2), .second, .val (.long u3), .second, .val (.long u4), .second, .val (.long m1), .second] [(.long u2), (.int (2 : Int32)), (.ref r0)])) rfl (hb hby d3_180) _ ?_
    show Steps p.tables e below (T2.setTop (mkF m 183 #[.val (.ref r0), .val (.ref r1), .val (.ref r2), .val (.long u0), .second, .val (.long u1), .second, .val (.long u2), .second, .val (.long u3), .second, .val (.long u4), .second, .val (.long m1), .second] [(.long (4503599627370495 : Int64)), (.long u2), (.int (2 : Int32)), (.ref r0)])) _
    refine XS.land X2.here hx rfl (hb hby d3_183) rfl ?_
    show Steps p.tables e below (T2.setTop (mkF m 184 #[.val (.ref r0), .val (.ref r1), .val (.ref r2), .val (.long u0), .second, .val (.long u1), .second, .val (.long u2), .second, .val (.long u3), .second, .val (.long u4), .second, .val (.long m1), .second] [(.long (u2 &&& (4503599627370495 : Int64))), (.int (2 : Int32)), (.ref r0)])) _
    exact k
  obtain ⟨T3, h3, L3, X3, N3, e3, W3, Y3, st3⟩ := own_stJ X2 hx hZ e2 V_r0_2 (j := (2 : Int32)) (by decide) 2 rfl (Nat.le_of_ble_eq_true rfl) N2 ga_r0 (g := (mkF m 184 #[.val (.ref r0), .val (.ref r1), .val (.ref r2), .val (.long u0), .second, .val (.long u1), .second, .val (.long u2), .second, .val (.long u3), .second, .val (.long u4), .second, .val (.long m1), .second] [(.long (u2 &&& (4503599627370495 : Int64))), (.int (2 : Int32)), (.ref r0)])) rfl rfl (hb hby d3_184)
  have K3 := K2.wr W3 (Or.inl (List.mem_of_getElem? (i := 0) rfl))
  have V_r0_3 : Arv Z h3 r0 k0 .long (5 : Int32) [(.long (u0 &&& (4503599627370495 : Int64))), (.long (u1 &&& (4503599627370495 : Int64))), (.long (u2 &&& (4503599627370495 : Int64))), (.long O3), (.long O4)] (.long (0 : Int64)) := Y3
  have sz_3 := Nat.le_trans sz_2 (Nat.le_of_eq (Wr.size W3).symm)
  refine own_go (T' := T3) (g' := (mkF m 185 #[.val (.ref r0), .val (.ref r1), .val (.ref r2), .val (.long u0), .second, .val (.long u1), .second, .val (.long u2), .second, .val (.long u3), .second, .val (.long u4), .second, .val (.long m1), .second] [])) st3 ?_
  refine own_go (T' := T3) (g' := (mkF m 193 #[.val (.ref r0), .val (.ref r1), .val (.ref r2), .val (.long u0), .second, .val (.long u1), .second, .val (.long u2), .second, .val (.long u3), .second, .val (.long u4), .second, .val (.long m1), .second] [(.long (u3 &&& (4503599627370495 : Int64))), (.int (3 : Int32)), (.ref r0)])) (fun t k => ?_) ?_
  · show Steps p.tables e below (T3.setTop (mkF m 185 #[.val (.ref r0), .val (.ref r1), .val (.ref r2), .val (.long u0), .second, .val (.long u1), .second, .val (.long u2), .second, .val (.long u3), .second, .val (.long u4), .second, .val (.long m1), .second] [])) t
    refine XS.aloadN X3.here hx rfl (hb hby d3_185) rfl rfl ?_
    show Steps p.tables e below (T3.setTop (mkF m 186 #[.val (.ref r0), .val (.ref r1), .val (.ref r2), .val (.long u0), .second, .val (.long u1), .second, .val (.long u2), .second, .val (.long u3), .second, .val (.long u4), .second, .val (.long m1), .second] [(.ref r0)])) _
    refine XS.iconst X3.here hx rfl (hb hby d3_186) ?_
    show Steps p.tables e below (T3.setTop (mkF m 187 #[.val (.ref r0), .val (.ref r1), .val (.ref r2), .val (.long u0), .second, .val (.long u1), .second, .val (.long u2), .second, .val (.long u3), .second, .val (.long u4), .second, .val (.long m1), .second] [(.int (3 : Int32)), (.ref r0)])) _
    refine XS.lload X3.here hx rfl (hb hby d3_187) rfl ?_
    show Steps p.tables e below (T3.setTop (mkF m 189 #[.val (.ref r0), .val (.ref r1), .val (.ref r2), .val (.long u0), .second, .val (.long u1), .second, .val (.long u2), .second, .val (.long u3), .second, .val (.long u4), .second, .val (.long m1), .second] [(.long u3), (.int (3 : Int32)), (.ref r0)])) _
    refine X3.ldc2Long hx hown (mvT hZ (hw _ (List.mem_of_getElem? (i := 18) rfl))) (g := (mkF m 189 #[.val (.ref r0), .val (.ref r1), .val (.ref r2), .val (.long u0), .second, .val (.long u1), .second, .val (.long u2), .second, .val (.long u3), .second, .val (.long u4), .second, .val (.long m1), .second] [(.long u3), (.int (3 : Int32)), (.ref r0)])) rfl (hb hby d3_189) _ ?_
    show Steps p.tables e below (T3.setTop (mkF m 192 #[.val (.ref r0), .val (.ref r1), .val (.ref r2), .val (.long u0), .second, .val (.long u1), .second, .val (.long u2), .second, .val (.long u3), .second, .val (.long u4), .second, .val (.long m1), .second] [(.long (4503599627370495 : Int64)), (.long u3), (.int (3 : Int32)), (.ref r0)])) _
    refine XS.land X3.here hx rfl (hb hby d3_192) rfl ?_
    show Steps p.tables e below (T3.setTop (mkF m 193 #[.val (.ref r0), .val (.ref r1), .val (.ref r2), .val (.long u0), .second, .val (.long u1), .second, .val (.long u2), .second, .val (.long u3), .second, .val (.long u4), .second, .val (.long m1), .second] [(.long (u3 &&& (4503599627370495 : Int64))), (.int (3 : Int32)), (.ref r0)])) _
    exact k
  obtain ⟨T4, h4, L4, X4, N4, e4, W4, Y4, st4⟩ := own_stJ X3 hx hZ e3 V_r0_3 (j := (3 : Int32)) (by decide) 3 rfl (Nat.le_of_ble_eq_true rfl) N3 ga_r0 (g := (mkF m 193 #[.val (.ref r0), .val (.ref r1), .val (.ref r2), .val (.long u0), .second, .val (.long u1), .second, .val (.long u2), .second, .val (.long u3), .second, .val (.long u4), .second, .val (.long m1), .second] [(.long (u3 &&& (4503599627370495 : Int64))), (.int (3 : Int32)), (.ref r0)])) rfl rfl (hb hby d3_193)
  have K4 := K3.wr W4 (Or.inl (List.mem_of_getElem? (i := 0) rfl))
  have V_r0_4 : Arv Z h4 r0 k0 .long (5 : Int32) [(.long (u0 &&& (4503599627370495 : Int64))), (.long (u1 &&& (4503599627370495 : Int64))), (.long (u2 &&& (4503599627370495 : Int64))), (.long (u3 &&& (4503599627370495 : Int64))), (.long O4)] (.long (0 : Int64)) := Y4
  have sz_4 := Nat.le_trans sz_3 (Nat.le_of_eq (Wr.size W4).symm)
  refine own_go (T' := T4) (g' := (mkF m 194 #[.val (.ref r0), .val (.ref r1), .val (.ref r2), .val (.long u0), .second, .val (.long u1), .second, .val (.long u2), .second, .val (.long u3), .second, .val (.long u4), .second, .val (.long m1), .second] [])) st4 ?_
  refine own_go (T' := T4) (g' := (mkF m 198 #[.val (.ref r0), .val (.ref r1), .val (.ref r2), .val (.long u0), .second, .val (.long u1), .second, .val (.long u2), .second, .val (.long u3), .second, .val (.long u4), .second, .val (.long m1), .second] [(.long u4), (.int (4 : Int32)), (.ref r0)])) (fun t k => ?_) ?_
  · show Steps p.tables e below (T4.setTop (mkF m 194 #[.val (.ref r0), .val (.ref r1), .val (.ref r2), .val (.long u0), .second, .val (.long u1), .second, .val (.long u2), .second, .val (.long u3), .second, .val (.long u4), .second, .val (.long m1), .second] [])) t
    refine XS.aloadN X4.here hx rfl (hb hby d3_194) rfl rfl ?_
    show Steps p.tables e below (T4.setTop (mkF m 195 #[.val (.ref r0), .val (.ref r1), .val (.ref r2), .val (.long u0), .second, .val (.long u1), .second, .val (.long u2), .second, .val (.long u3), .second, .val (.long u4), .second, .val (.long m1), .second] [(.ref r0)])) _
    refine XS.iconst X4.here hx rfl (hb hby d3_195) ?_
    show Steps p.tables e below (T4.setTop (mkF m 196 #[.val (.ref r0), .val (.ref r1), .val (.ref r2), .val (.long u0), .second, .val (.long u1), .second, .val (.long u2), .second, .val (.long u3), .second, .val (.long u4), .second, .val (.long m1), .second] [(.int (4 : Int32)), (.ref r0)])) _
    refine XS.lload X4.here hx rfl (hb hby d3_196) rfl ?_
    show Steps p.tables e below (T4.setTop (mkF m 198 #[.val (.ref r0), .val (.ref r1), .val (.ref r2), .val (.long u0), .second, .val (.long u1), .second, .val (.long u2), .second, .val (.long u3), .second, .val (.long u4), .second, .val (.long m1), .second] [(.long u4), (.int (4 : Int32)), (.ref r0)])) _
    exact k
  obtain ⟨T5, h5, L5, X5, N5, e5, W5, Y5, st5⟩ := own_stJ X4 hx hZ e4 V_r0_4 (j := (4 : Int32)) (by decide) 4 rfl (Nat.le_of_ble_eq_true rfl) N4 ga_r0 (g := (mkF m 198 #[.val (.ref r0), .val (.ref r1), .val (.ref r2), .val (.long u0), .second, .val (.long u1), .second, .val (.long u2), .second, .val (.long u3), .second, .val (.long u4), .second, .val (.long m1), .second] [(.long u4), (.int (4 : Int32)), (.ref r0)])) rfl rfl (hb hby d3_198)
  have K5 := K4.wr W5 (Or.inl (List.mem_of_getElem? (i := 0) rfl))
  have V_r0_5 : Arv Z h5 r0 k0 .long (5 : Int32) [(.long (u0 &&& (4503599627370495 : Int64))), (.long (u1 &&& (4503599627370495 : Int64))), (.long (u2 &&& (4503599627370495 : Int64))), (.long (u3 &&& (4503599627370495 : Int64))), (.long u4)] (.long (0 : Int64)) := Y5
  have sz_5 := Nat.le_trans sz_4 (Nat.le_of_eq (Wr.size W5).symm)
  refine own_go (T' := T5) (g' := (mkF m 199 #[.val (.ref r0), .val (.ref r1), .val (.ref r2), .val (.long u0), .second, .val (.long u1), .second, .val (.long u2), .second, .val (.long u3), .second, .val (.long u4), .second, .val (.long m1), .second] [])) st5 ?_
  exact own_retV X5 hx hlk hret (hb hby d3_199) (by decide) (by decide) N5 (by rw [e5]; exact ⟨rfl, K5, t0, t1, t2, t3, t4, m1, u0, u1, u2, u3, u4, ⟨h_t0, h_t1, h_t2, h_t3, h_t4, h_m1, h_u0, h_u1, h_u2, h_u3, h_u4⟩, V_r0_5⟩)
def own_E6 (q1 q2 q3 q4 q5 s0 s1 s2 s3 s4 m2 : Int64) : Prop := s0 = (q1 - (4503599627370495 : Int64)) ∧ s1 = ((q2 - (17592186044415 : Int64)) + (s0 >>> ((52 : Int32) &&& 0x3f).toInt64)) ∧ s2 = (q3 + (s1 >>> ((52 : Int32) &&& 0x3f).toInt64)) ∧ s3 = ((q4 - (68719476736 : Int64)) + (s2 >>> ((52 : Int32) &&& 0x3f).toInt64)) ∧ s4 = ((q5 - (281474976645120 : Int64)) + (s3 >>> ((52 : Int32) &&& 0x3f).toInt64)) ∧ m2 = (s4 >>> ((63 : Int32) &&& 0x3f).toInt64)
def own_Q6 (Z : State) (r0 : Addr) (k0 : ClassId) (q1 q2 q3 q4 q5 : Int64) (h0 : Heap) : Option Value → Heap → Prop := fun v h => v = none ∧ Keep h0 h [r0] ∧ ∃ s0 s1 s2 s3 s4 m2 : Int64, own_E6 q1 q2 q3 q4 q5 s0 s1 s2 s3 s4 m2 ∧ Arv Z h r0 k0 .long (5 : Int32) [(.long ((q1 &&& m2) ||| ((s0 &&& (4503599627370495 : Int64)) &&& (m2 ^^^ (-1 : Int64))))), (.long ((q2 &&& m2) ||| ((s1 &&& (4503599627370495 : Int64)) &&& (m2 ^^^ (-1 : Int64))))), (.long ((q3 &&& m2) ||| ((s2 &&& (4503599627370495 : Int64)) &&& (m2 ^^^ (-1 : Int64))))), (.long ((q4 &&& m2) ||| ((s3 &&& (4503599627370495 : Int64)) &&& (m2 ^^^ (-1 : Int64))))), (.long ((q5 &&& m2) ||| (s4 &&& (m2 ^^^ (-1 : Int64)))))] (.long (0 : Int64))
abbrev own_r6 : Room := { frames := 0, cells := 0, slots := 0, locals := 0 }
theorem d6_0 : decode prog_11_method_24_code 0 = .ok (.lload_n 1, 1) := by decide +kernel
theorem d6_1 : decode prog_11_method_24_code 1 = .ok (.ldc2_w 54, 3) := by decide +kernel
theorem d6_4 : decode prog_11_method_24_code 4 = .ok (.lsub, 1) := by decide +kernel
theorem d6_5 : decode prog_11_method_24_code 5 = .ok (.lstore 11, 2) := by decide +kernel
theorem d6_7 : decode prog_11_method_24_code 7 = .ok (.lload_n 3, 1) := by decide +kernel
theorem d6_8 : decode prog_11_method_24_code 8 = .ok (.ldc2_w 66, 3) := by decide +kernel
theorem d6_11 : decode prog_11_method_24_code 11 = .ok (.lsub, 1) := by decide +kernel
theorem d6_12 : decode prog_11_method_24_code 12 = .ok (.lload 11, 2) := by decide +kernel
theorem d6_14 : decode prog_11_method_24_code 14 = .ok (.bipush 52, 2) := by decide +kernel
theorem d6_16 : decode prog_11_method_24_code 16 = .ok (.lshr, 1) := by decide +kernel
theorem d6_17 : decode prog_11_method_24_code 17 = .ok (.ladd, 1) := by decide +kernel
theorem d6_18 : decode prog_11_method_24_code 18 = .ok (.lstore 13, 2) := by decide +kernel
theorem d6_20 : decode prog_11_method_24_code 20 = .ok (.lload 5, 2) := by decide +kernel
theorem d6_22 : decode prog_11_method_24_code 22 = .ok (.lload 13, 2) := by decide +kernel
theorem d6_24 : decode prog_11_method_24_code 24 = .ok (.bipush 52, 2) := by decide +kernel
theorem d6_26 : decode prog_11_method_24_code 26 = .ok (.lshr, 1) := by decide +kernel
theorem d6_27 : decode prog_11_method_24_code 27 = .ok (.ladd, 1) := by decide +kernel
theorem d6_28 : decode prog_11_method_24_code 28 = .ok (.lstore 15, 2) := by decide +kernel
theorem d6_30 : decode prog_11_method_24_code 30 = .ok (.lload 7, 2) := by decide +kernel
theorem d6_32 : decode prog_11_method_24_code 32 = .ok (.ldc2_w 68, 3) := by decide +kernel
theorem d6_35 : decode prog_11_method_24_code 35 = .ok (.lsub, 1) := by decide +kernel
theorem d6_36 : decode prog_11_method_24_code 36 = .ok (.lload 15, 2) := by decide +kernel
theorem d6_38 : decode prog_11_method_24_code 38 = .ok (.bipush 52, 2) := by decide +kernel
theorem d6_40 : decode prog_11_method_24_code 40 = .ok (.lshr, 1) := by decide +kernel
theorem d6_41 : decode prog_11_method_24_code 41 = .ok (.ladd, 1) := by decide +kernel
theorem d6_42 : decode prog_11_method_24_code 42 = .ok (.lstore 17, 2) := by decide +kernel
theorem d6_44 : decode prog_11_method_24_code 44 = .ok (.lload 9, 2) := by decide +kernel
theorem d6_46 : decode prog_11_method_24_code 46 = .ok (.ldc2_w 70, 3) := by decide +kernel
theorem d6_49 : decode prog_11_method_24_code 49 = .ok (.lsub, 1) := by decide +kernel
theorem d6_50 : decode prog_11_method_24_code 50 = .ok (.lload 17, 2) := by decide +kernel
theorem d6_52 : decode prog_11_method_24_code 52 = .ok (.bipush 52, 2) := by decide +kernel
theorem d6_54 : decode prog_11_method_24_code 54 = .ok (.lshr, 1) := by decide +kernel
theorem d6_55 : decode prog_11_method_24_code 55 = .ok (.ladd, 1) := by decide +kernel
theorem d6_56 : decode prog_11_method_24_code 56 = .ok (.lstore 19, 2) := by decide +kernel
theorem d6_58 : decode prog_11_method_24_code 58 = .ok (.lload 19, 2) := by decide +kernel
theorem d6_60 : decode prog_11_method_24_code 60 = .ok (.bipush 63, 2) := by decide +kernel
theorem d6_62 : decode prog_11_method_24_code 62 = .ok (.lshr, 1) := by decide +kernel
theorem d6_63 : decode prog_11_method_24_code 63 = .ok (.lstore 21, 2) := by decide +kernel
theorem d6_65 : decode prog_11_method_24_code 65 = .ok (.aload_n 0, 1) := by decide +kernel
theorem d6_66 : decode prog_11_method_24_code 66 = .ok (.iconst 0, 1) := by decide +kernel
theorem d6_67 : decode prog_11_method_24_code 67 = .ok (.lload_n 1, 1) := by decide +kernel
theorem d6_68 : decode prog_11_method_24_code 68 = .ok (.lload 21, 2) := by decide +kernel
theorem d6_70 : decode prog_11_method_24_code 70 = .ok (.land, 1) := by decide +kernel
theorem d6_71 : decode prog_11_method_24_code 71 = .ok (.lload 11, 2) := by decide +kernel
theorem d6_73 : decode prog_11_method_24_code 73 = .ok (.ldc2_w 54, 3) := by decide +kernel
theorem d6_76 : decode prog_11_method_24_code 76 = .ok (.land, 1) := by decide +kernel
theorem d6_77 : decode prog_11_method_24_code 77 = .ok (.lload 21, 2) := by decide +kernel
theorem d6_79 : decode prog_11_method_24_code 79 = .ok (.ldc2_w 119, 3) := by decide +kernel
theorem d6_82 : decode prog_11_method_24_code 82 = .ok (.lxor, 1) := by decide +kernel
theorem d6_83 : decode prog_11_method_24_code 83 = .ok (.land, 1) := by decide +kernel
theorem d6_84 : decode prog_11_method_24_code 84 = .ok (.lor, 1) := by decide +kernel
theorem d6_85 : decode prog_11_method_24_code 85 = .ok (.lastore, 1) := by decide +kernel
theorem d6_86 : decode prog_11_method_24_code 86 = .ok (.aload_n 0, 1) := by decide +kernel
theorem d6_87 : decode prog_11_method_24_code 87 = .ok (.iconst 1, 1) := by decide +kernel
theorem d6_88 : decode prog_11_method_24_code 88 = .ok (.lload_n 3, 1) := by decide +kernel
theorem d6_89 : decode prog_11_method_24_code 89 = .ok (.lload 21, 2) := by decide +kernel
theorem d6_91 : decode prog_11_method_24_code 91 = .ok (.land, 1) := by decide +kernel
theorem d6_92 : decode prog_11_method_24_code 92 = .ok (.lload 13, 2) := by decide +kernel
theorem d6_94 : decode prog_11_method_24_code 94 = .ok (.ldc2_w 54, 3) := by decide +kernel
theorem d6_97 : decode prog_11_method_24_code 97 = .ok (.land, 1) := by decide +kernel
theorem d6_98 : decode prog_11_method_24_code 98 = .ok (.lload 21, 2) := by decide +kernel
theorem d6_100 : decode prog_11_method_24_code 100 = .ok (.ldc2_w 119, 3) := by decide +kernel
theorem d6_103 : decode prog_11_method_24_code 103 = .ok (.lxor, 1) := by decide +kernel
theorem d6_104 : decode prog_11_method_24_code 104 = .ok (.land, 1) := by decide +kernel
theorem d6_105 : decode prog_11_method_24_code 105 = .ok (.lor, 1) := by decide +kernel
theorem d6_106 : decode prog_11_method_24_code 106 = .ok (.lastore, 1) := by decide +kernel
theorem d6_107 : decode prog_11_method_24_code 107 = .ok (.aload_n 0, 1) := by decide +kernel
theorem d6_108 : decode prog_11_method_24_code 108 = .ok (.iconst 2, 1) := by decide +kernel
theorem d6_109 : decode prog_11_method_24_code 109 = .ok (.lload 5, 2) := by decide +kernel
theorem d6_111 : decode prog_11_method_24_code 111 = .ok (.lload 21, 2) := by decide +kernel
theorem d6_113 : decode prog_11_method_24_code 113 = .ok (.land, 1) := by decide +kernel
theorem d6_114 : decode prog_11_method_24_code 114 = .ok (.lload 15, 2) := by decide +kernel
theorem d6_116 : decode prog_11_method_24_code 116 = .ok (.ldc2_w 54, 3) := by decide +kernel
theorem d6_119 : decode prog_11_method_24_code 119 = .ok (.land, 1) := by decide +kernel
theorem d6_120 : decode prog_11_method_24_code 120 = .ok (.lload 21, 2) := by decide +kernel
theorem d6_122 : decode prog_11_method_24_code 122 = .ok (.ldc2_w 119, 3) := by decide +kernel
theorem d6_125 : decode prog_11_method_24_code 125 = .ok (.lxor, 1) := by decide +kernel
theorem d6_126 : decode prog_11_method_24_code 126 = .ok (.land, 1) := by decide +kernel
theorem d6_127 : decode prog_11_method_24_code 127 = .ok (.lor, 1) := by decide +kernel
theorem d6_128 : decode prog_11_method_24_code 128 = .ok (.lastore, 1) := by decide +kernel
theorem d6_129 : decode prog_11_method_24_code 129 = .ok (.aload_n 0, 1) := by decide +kernel
theorem d6_130 : decode prog_11_method_24_code 130 = .ok (.iconst 3, 1) := by decide +kernel
theorem d6_131 : decode prog_11_method_24_code 131 = .ok (.lload 7, 2) := by decide +kernel
theorem d6_133 : decode prog_11_method_24_code 133 = .ok (.lload 21, 2) := by decide +kernel
theorem d6_135 : decode prog_11_method_24_code 135 = .ok (.land, 1) := by decide +kernel
theorem d6_136 : decode prog_11_method_24_code 136 = .ok (.lload 17, 2) := by decide +kernel
theorem d6_138 : decode prog_11_method_24_code 138 = .ok (.ldc2_w 54, 3) := by decide +kernel
theorem d6_141 : decode prog_11_method_24_code 141 = .ok (.land, 1) := by decide +kernel
theorem d6_142 : decode prog_11_method_24_code 142 = .ok (.lload 21, 2) := by decide +kernel
theorem d6_144 : decode prog_11_method_24_code 144 = .ok (.ldc2_w 119, 3) := by decide +kernel
theorem d6_147 : decode prog_11_method_24_code 147 = .ok (.lxor, 1) := by decide +kernel
theorem d6_148 : decode prog_11_method_24_code 148 = .ok (.land, 1) := by decide +kernel
theorem d6_149 : decode prog_11_method_24_code 149 = .ok (.lor, 1) := by decide +kernel
theorem d6_150 : decode prog_11_method_24_code 150 = .ok (.lastore, 1) := by decide +kernel
theorem d6_151 : decode prog_11_method_24_code 151 = .ok (.aload_n 0, 1) := by decide +kernel
theorem d6_152 : decode prog_11_method_24_code 152 = .ok (.iconst 4, 1) := by decide +kernel
theorem d6_153 : decode prog_11_method_24_code 153 = .ok (.lload 9, 2) := by decide +kernel
theorem d6_155 : decode prog_11_method_24_code 155 = .ok (.lload 21, 2) := by decide +kernel
theorem d6_157 : decode prog_11_method_24_code 157 = .ok (.land, 1) := by decide +kernel
theorem d6_158 : decode prog_11_method_24_code 158 = .ok (.lload 19, 2) := by decide +kernel
theorem d6_160 : decode prog_11_method_24_code 160 = .ok (.lload 21, 2) := by decide +kernel
theorem d6_162 : decode prog_11_method_24_code 162 = .ok (.ldc2_w 119, 3) := by decide +kernel
theorem d6_165 : decode prog_11_method_24_code 165 = .ok (.lxor, 1) := by decide +kernel
theorem d6_166 : decode prog_11_method_24_code 166 = .ok (.land, 1) := by decide +kernel
theorem d6_167 : decode prog_11_method_24_code 167 = .ok (.lor, 1) := by decide +kernel
theorem d6_168 : decode prog_11_method_24_code 168 = .ok (.lastore, 1) := by decide +kernel
theorem d6_169 : decode prog_11_method_24_code 169 = .ok (.return_, 1) := by decide +kernel
theorem ef_6 (m : MethodId) (r0 : Addr) (q1 : Int64) (q2 : Int64) (q3 : Int64) (q4 : Int64) (q5 : Int64) : entryFrame m #[(.ref r0), (.long q1), (.long q2), (.long q3), (.long q4), (.long q5)] 23 = mkF m 0 #[.val (.ref r0), .val (.long q1), .second, .val (.long q2), .second, .val (.long q3), .second, .val (.long q4), .second, .val (.long q5), .second, .unset, .unset, .unset, .unset, .unset, .unset, .unset, .unset, .unset, .unset, .unset, .unset] [] := by first | (simp [entryFrame, mkF, argsToLocals, Value.category]; done) | rfl
set_option maxRecDepth 65536 in
set_option maxHeartbeats 40000000 in
theorem rm6 (l : Launch) (Z : State) (a0 : Array Value) (hw : ∀ d ∈ tables_1, d.before a0 Z = true) (r0 : Addr) (k0 : ClassId) (O0 O1 O2 O3 O4 q1 q2 q3 q4 q5 : Int64) (h0 : Heap) (n0 : Nat) (Z0 : n0 ≤ h0.size) (ga_r0 : n0 ≤ r0) (V0 : Arv Z h0 r0 k0 .long (5 : Int32) [(.long O0), (.long O1), (.long O2), (.long O3), (.long O4)] (.long (0 : Int64))) : own_Con [] l Z (⟨"com/example/linkwell/linkwell/cards/P256Field", "reduceOnce", "([JJJJJJ)V"⟩ : MethodName) prog_11_method_24_code 23 none own_r6 n0 #[(.ref r0), (.long q1), (.long q2), (.long q3), (.long q4), (.long q5)] h0 (own_Q6 Z r0 k0 q1 q2 q3 q4 q5 h0) := by
  refine own_body (plainFor_of_name (by first | (simp [plainName, overriddenIn]; done) | decide +kernel)) (fun m => mkF m 0 #[.val (.ref r0), .val (.long q1), .second, .val (.long q2), .second, .val (.long q3), .second, .val (.long q4), .second, .val (.long q5), .second, .unset, .unset, .unset, .unset, .unset, .unset, .unset, .unset, .unset, .unset, .unset, .unset] []) (fun m => ef_6 m r0 q1 q2 q3 q4 q5) ?_
  intro p e s m below meth c s₁ hx hby hml hown hnm hZ hret hlk X0 e0 N0
  have K0 := Keep.refl h0 [r0]
  refine own_go (T' := s₁) (g' := (mkF m 7 #[.val (.ref r0), .val (.long q1), .second, .val (.long q2), .second, .val (.long q3), .second, .val (.long q4), .second, .val (.long q5), .second, .val (.long (q1 - (4503599627370495 : Int64))), .second, .unset, .unset, .unset, .unset, .unset, .unset, .unset, .unset, .unset, .unset] [])) (fun t k => ?_) ?_
  · show Steps p.tables e below (s₁.setTop (mkF m 0 #[.val (.ref r0), .val (.long q1), .second, .val (.long q2), .second, .val (.long q3), .second, .val (.long q4), .second, .val (.long q5), .second, .unset, .unset, .unset, .unset, .unset, .unset, .unset, .unset, .unset, .unset, .unset, .unset] [])) t
    refine XS.lloadN X0.here hx rfl (hb hby d6_0) rfl ?_
    show Steps p.tables e below (s₁.setTop (mkF m 1 #[.val (.ref r0), .val (.long q1), .second, .val (.long q2), .second, .val (.long q3), .second, .val (.long q4), .second, .val (.long q5), .second, .unset, .unset, .unset, .unset, .unset, .unset, .unset, .unset, .unset, .unset, .unset, .unset] [(.long q1)])) _
    refine X0.ldc2Long hx hown (mvT hZ (hw _ (List.mem_of_getElem? (i := 18) rfl))) (g := (mkF m 1 #[.val (.ref r0), .val (.long q1), .second, .val (.long q2), .second, .val (.long q3), .second, .val (.long q4), .second, .val (.long q5), .second, .unset, .unset, .unset, .unset, .unset, .unset, .unset, .unset, .unset, .unset, .unset, .unset] [(.long q1)])) rfl (hb hby d6_1) _ ?_
    show Steps p.tables e below (s₁.setTop (mkF m 4 #[.val (.ref r0), .val (.long q1), .second, .val (.long q2), .second, .val (.long q3), .second, .val (.long q4), .second, .val (.long q5), .second, .unset, .unset, .unset, .unset, .unset, .unset, .unset, .unset, .unset, .unset, .unset, .unset] [(.long (4503599627370495 : Int64)), (.long q1)])) _
    refine XS.lsub X0.here hx rfl (hb hby d6_4) rfl ?_
    show Steps p.tables e below (s₁.setTop (mkF m 5 #[.val (.ref r0), .val (.long q1), .second, .val (.long q2), .second, .val (.long q3), .second, .val (.long q4), .second, .val (.long q5), .second, .unset, .unset, .unset, .unset, .unset, .unset, .unset, .unset, .unset, .unset, .unset, .unset] [(.long (q1 - (4503599627370495 : Int64)))])) _
    refine XS.lstore X0.here hx rfl (hb hby d6_5) rfl (l' := #[.val (.ref r0), .val (.long q1), .second, .val (.long q2), .second, .val (.long q3), .second, .val (.long q4), .second, .val (.long q5), .second, .val (.long (q1 - (4503599627370495 : Int64))), .second, .unset, .unset, .unset, .unset, .unset, .unset, .unset, .unset, .unset, .unset]) rfl ?_
    show Steps p.tables e below (s₁.setTop (mkF m 7 #[.val (.ref r0), .val (.long q1), .second, .val (.long q2), .second, .val (.long q3), .second, .val (.long q4), .second, .val (.long q5), .second, .val (.long (q1 - (4503599627370495 : Int64))), .second, .unset, .unset, .unset, .unset, .unset, .unset, .unset, .unset, .unset, .unset] [])) _
    exact k
  obtain ⟨s0, h_s0⟩ : ∃ z : Int64, z = (q1 - (4503599627370495 : Int64)) := ⟨_, rfl⟩
  rw [← h_s0]
  refine own_go (T' := s₁) (g' := (mkF m 20 #[.val (.ref r0), .val (.long q1), .second, .val (.long q2), .second, .val (.long q3), .second, .val (.long q4), .second, .val (.long q5), .second, .val (.long s0), .second, .val (.long ((q2 - (17592186044415 : Int64)) + (s0 >>> ((52 : Int32) &&& 0x3f).toInt64))), .second, .unset, .unset, .unset, .unset, .unset, .unset, .unset, .unset] [])) (fun t k => ?_) ?_
  · show Steps p.tables e below (s₁.setTop (mkF m 7 #[.val (.ref r0), .val (.long q1), .second, .val (.long q2), .second, .val (.long q3), .second, .val (.long q4), .second, .val (.long q5), .second, .val (.long s0), .second, .unset, .unset, .unset, .unset, .unset, .unset, .unset, .unset, .unset, .unset] [])) t
    refine XS.lloadN X0.here hx rfl (hb hby d6_7) rfl ?_
    show Steps p.tables e below (s₁.setTop (mkF m 8 #[.val (.ref r0), .val (.long q1), .second, .val (.long q2), .second, .val (.long q3), .second, .val (.long q4), .second, .val (.long q5), .second, .val (.long s0), .second, .unset, .unset, .unset, .unset, .unset, .unset, .unset, .unset, .unset, .unset] [(.long q2)])) _
    refine X0.ldc2Long hx hown (mvT hZ (hw _ (List.mem_of_getElem? (i := 19) rfl))) (g := (mkF m 8 #[.val (.ref r0), .val (.long q1), .second, .val (.long q2), .second, .val (.long q3), .second, .val (.long q4), .second, .val (.long q5), .second, .val (.long s0), .second, .unset, .unset, .unset, .unset, .unset, .unset, .unset, .unset, .unset, .unset] [(.long q2)])) rfl (hb hby d6_8) _ ?_
    show Steps p.tables e below (s₁.setTop (mkF m 11 #[.val (.ref r0), .val (.long q1), .second, .val (.long q2), .second, .val (.long q3), .second, .val (.long q4), .second, .val (.long q5), .second, .val (.long s0), .second, .unset, .unset, .unset, .unset, .unset, .unset, .unset, .unset, .unset, .unset] [(.long (17592186044415 : Int64)), (.long q2)])) _
    refine XS.lsub X0.here hx rfl (hb hby d6_11) rfl ?_
    show Steps p.tables e below (s₁.setTop (mkF m 12 #[.val (.ref r0), .val (.long q1), .second, .val (.long q2), .second, .val (.long q3), .second, .val (.long q4), .second, .val (.long q5), .second, .val (.long s0), .second, .unset, .unset, .unset, .unset, .unset, .unset, .unset, .unset, .unset, .unset] [(.long (q2 - (17592186044415 : Int64)))])) _
    refine XS.lload X0.here hx rfl (hb hby d6_12) rfl ?_
    show Steps p.tables e below (s₁.setTop (mkF m 14 #[.val (.ref r0), .val (.long q1), .second, .val (.long q2), .second, .val (.long q3), .second, .val (.long q4), .second, .val (.long q5), .second, .val (.long s0), .second, .unset, .unset, .unset, .unset, .unset, .unset, .unset, .unset, .unset, .unset] [(.long s0), (.long (q2 - (17592186044415 : Int64)))])) _
    refine XS.bipush X0.here hx rfl (hb hby d6_14) ?_
    show Steps p.tables e below (s₁.setTop (mkF m 16 #[.val (.ref r0), .val (.long q1), .second, .val (.long q2), .second, .val (.long q3), .second, .val (.long q4), .second, .val (.long q5), .second, .val (.long s0), .second, .unset, .unset, .unset, .unset, .unset, .unset, .unset, .unset, .unset, .unset] [(.int (52 : Int32)), (.long s0), (.long (q2 - (17592186044415 : Int64)))])) _
    refine XS.lshr X0.here hx rfl (hb hby d6_16) rfl ?_
    show Steps p.tables e below (s₁.setTop (mkF m 17 #[.val (.ref r0), .val (.long q1), .second, .val (.long q2), .second, .val (.long q3), .second, .val (.long q4), .second, .val (.long q5), .second, .val (.long s0), .second, .unset, .unset, .unset, .unset, .unset, .unset, .unset, .unset, .unset, .unset] [(.long (s0 >>> ((52 : Int32) &&& 0x3f).toInt64)), (.long (q2 - (17592186044415 : Int64)))])) _
    refine XS.ladd X0.here hx rfl (hb hby d6_17) rfl ?_
    show Steps p.tables e below (s₁.setTop (mkF m 18 #[.val (.ref r0), .val (.long q1), .second, .val (.long q2), .second, .val (.long q3), .second, .val (.long q4), .second, .val (.long q5), .second, .val (.long s0), .second, .unset, .unset, .unset, .unset, .unset, .unset, .unset, .unset, .unset, .unset] [(.long ((q2 - (17592186044415 : Int64)) + (s0 >>> ((52 : Int32) &&& 0x3f).toInt64)))])) _
    refine XS.lstore X0.here hx rfl (hb hby d6_18) rfl (l' := #[.val (.ref r0), .val (.long q1), .second, .val (.long q2), .second, .val (.long q3), .second, .val (.long q4), .second, .val (.long q5), .second, .val (.long s0), .second, .val (.long ((q2 - (17592186044415 : Int64)) + (s0 >>> ((52 : Int32) &&& 0x3f).toInt64))), .second, .unset, .unset, .unset, .unset, .unset, .unset, .unset, .unset]) rfl ?_
    show Steps p.tables e below (s₁.setTop (mkF m 20 #[.val (.ref r0), .val (.long q1), .second, .val (.long q2), .second, .val (.long q3), .second, .val (.long q4), .second, .val (.long q5), .second, .val (.long s0), .second, .val (.long ((q2 - (17592186044415 : Int64)) + (s0 >>> ((52 : Int32) &&& 0x3f).toInt64))), .second, .unset, .unset, .unset, .unset, .unset, .unset, .unset, .unset] [])) _
    exact k
  obtain ⟨s1, h_s1⟩ : ∃ z : Int64, z = ((q2 - (17592186044415 : Int64)) + (s0 >>> ((52 : Int32) &&& 0x3f).toInt64)) := ⟨_, rfl⟩
  rw [← h_s1]
  refine own_go (T' := s₁) (g' := (mkF m 30 #[.val (.ref r0), .val (.long q1), .second, .val (.long q2), .second, .val (.long q3), .second, .val (.long q4), .second, .val (.long q5), .second, .val (.long s0), .second, .val (.long s1), .second, .val (.long (q3 + (s1 >>> ((52 : Int32) &&& 0x3f).toInt64))), .second, .unset, .unset, .unset, .unset, .unset, .unset] [])) (fun t k => ?_) ?_
  · show Steps p.tables e below (s₁.setTop (mkF m 20 #[.val (.ref r0), .val (.long q1), .second, .val (.long q2), .second, .val (.long q3), .second, .val (.long q4), .second, .val (.long q5), .second, .val (.long s0), .second, .val (.long s1), .second, .unset, .unset, .unset, .unset, .unset, .unset, .unset, .unset] [])) t
    refine XS.lload X0.here hx rfl (hb hby d6_20) rfl ?_
    show Steps p.tables e below (s₁.setTop (mkF m 22 #[.val (.ref r0), .val (.long q1), .second, .val (.long q2), .second, .val (.long q3), .second, .val (.long q4), .second, .val (.long q5), .second, .val (.long s0), .second, .val (.long s1), .second, .unset, .unset, .unset, .unset, .unset, .unset, .unset, .unset] [(.long q3)])) _
    refine XS.lload X0.here hx rfl (hb hby d6_22) rfl ?_
    show Steps p.tables e below (s₁.setTop (mkF m 24 #[.val (.ref r0), .val (.long q1), .second, .val (.long q2), .second, .val (.long q3), .second, .val (.long q4), .second, .val (.long q5), .second, .val (.long s0), .second, .val (.long s1), .second, .unset, .unset, .unset, .unset, .unset, .unset, .unset, .unset] [(.long s1), (.long q3)])) _
    refine XS.bipush X0.here hx rfl (hb hby d6_24) ?_
    show Steps p.tables e below (s₁.setTop (mkF m 26 #[.val (.ref r0), .val (.long q1), .second, .val (.long q2), .second, .val (.long q3), .second, .val (.long q4), .second, .val (.long q5), .second, .val (.long s0), .second, .val (.long s1), .second, .unset, .unset, .unset, .unset, .unset, .unset, .unset, .unset] [(.int (52 : Int32)), (.long s1), (.long q3)])) _
    refine XS.lshr X0.here hx rfl (hb hby d6_26) rfl ?_
    show Steps p.tables e below (s₁.setTop (mkF m 27 #[.val (.ref r0), .val (.long q1), .second, .val (.long q2), .second, .val (.long q3), .second, .val (.long q4), .second, .val (.long q5), .second, .val (.long s0), .second, .val (.long s1), .second, .unset, .unset, .unset, .unset, .unset, .unset, .unset, .unset] [(.long (s1 >>> ((52 : Int32) &&& 0x3f).toInt64)), (.long q3)])) _
    refine XS.ladd X0.here hx rfl (hb hby d6_27) rfl ?_
    show Steps p.tables e below (s₁.setTop (mkF m 28 #[.val (.ref r0), .val (.long q1), .second, .val (.long q2), .second, .val (.long q3), .second, .val (.long q4), .second, .val (.long q5), .second, .val (.long s0), .second, .val (.long s1), .second, .unset, .unset, .unset, .unset, .unset, .unset, .unset, .unset] [(.long (q3 + (s1 >>> ((52 : Int32) &&& 0x3f).toInt64)))])) _
    refine XS.lstore X0.here hx rfl (hb hby d6_28) rfl (l' := #[.val (.ref r0), .val (.long q1), .second, .val (.long q2), .second, .val (.long q3), .second, .val (.long q4), .second, .val (.long q5), .second, .val (.long s0), .second, .val (.long s1), .second, .val (.long (q3 + (s1 >>> ((52 : Int32) &&& 0x3f).toInt64))), .second, .unset, .unset, .unset, .unset, .unset, .unset]) rfl ?_
    show Steps p.tables e below (s₁.setTop (mkF m 30 #[.val (.ref r0), .val (.long q1), .second, .val (.long q2), .second, .val (.long q3), .second, .val (.long q4), .second, .val (.long q5), .second, .val (.long s0), .second, .val (.long s1), .second, .val (.long (q3 + (s1 >>> ((52 : Int32) &&& 0x3f).toInt64))), .second, .unset, .unset, .unset, .unset, .unset, .unset] [])) _
    exact k
  obtain ⟨s2, h_s2⟩ : ∃ z : Int64, z = (q3 + (s1 >>> ((52 : Int32) &&& 0x3f).toInt64)) := ⟨_, rfl⟩
  rw [← h_s2]
  refine own_go (T' := s₁) (g' := (mkF m 44 #[.val (.ref r0), .val (.long q1), .second, .val (.long q2), .second, .val (.long q3), .second, .val (.long q4), .second, .val (.long q5), .second, .val (.long s0), .second, .val (.long s1), .second, .val (.long s2), .second, .val (.long ((q4 - (68719476736 : Int64)) + (s2 >>> ((52 : Int32) &&& 0x3f).toInt64))), .second, .unset, .unset, .unset, .unset] [])) (fun t k => ?_) ?_
  · show Steps p.tables e below (s₁.setTop (mkF m 30 #[.val (.ref r0), .val (.long q1), .second, .val (.long q2), .second, .val (.long q3), .second, .val (.long q4), .second, .val (.long q5), .second, .val (.long s0), .second, .val (.long s1), .second, .val (.long s2), .second, .unset, .unset, .unset, .unset, .unset, .unset] [])) t
    refine XS.lload X0.here hx rfl (hb hby d6_30) rfl ?_
    show Steps p.tables e below (s₁.setTop (mkF m 32 #[.val (.ref r0), .val (.long q1), .second, .val (.long q2), .second, .val (.long q3), .second, .val (.long q4), .second, .val (.long q5), .second, .val (.long s0), .second, .val (.long s1), .second, .val (.long s2), .second, .unset, .unset, .unset, .unset, .unset, .unset] [(.long q4)])) _
    refine X0.ldc2Long hx hown (mvT hZ (hw _ (List.mem_of_getElem? (i := 20) rfl))) (g := (mkF m 32 #[.val (.ref r0), .val (.long q1), .second, .val (.long q2), .second, .val (.long q3), .second, .val (.long q4), .second, .val (.long q5), .second, .val (.long s0), .second, .val (.long s1), .second, .val (.long s2), .second, .unset, .unset, .unset, .unset, .unset, .unset] [(.long q4)])) rfl (hb hby d6_32) _ ?_
    show Steps p.tables e below (s₁.setTop (mkF m 35 #[.val (.ref r0), .val (.long q1), .second, .val (.long q2), .second, .val (.long q3), .second, .val (.long q4), .second, .val (.long q5), .second, .val (.long s0), .second, .val (.long s1), .second, .val (.long s2), .second, .unset, .unset, .unset, .unset, .unset, .unset] [(.long (68719476736 : Int64)), (.long q4)])) _
    refine XS.lsub X0.here hx rfl (hb hby d6_35) rfl ?_
    show Steps p.tables e below (s₁.setTop (mkF m 36 #[.val (.ref r0), .val (.long q1), .second, .val (.long q2), .second, .val (.long q3), .second, .val (.long q4), .second, .val (.long q5), .second, .val (.long s0), .second, .val (.long s1), .second, .val (.long s2), .second, .unset, .unset, .unset, .unset, .unset, .unset] [(.long (q4 - (68719476736 : Int64)))])) _
    refine XS.lload X0.here hx rfl (hb hby d6_36) rfl ?_
    show Steps p.tables e below (s₁.setTop (mkF m 38 #[.val (.ref r0), .val (.long q1), .second, .val (.long q2), .second, .val (.long q3), .second, .val (.long q4), .second, .val (.long q5), .second, .val (.long s0), .second, .val (.long s1), .second, .val (.long s2), .second, .unset, .unset, .unset, .unset, .unset, .unset] [(.long s2), (.long (q4 - (68719476736 : Int64)))])) _
    refine XS.bipush X0.here hx rfl (hb hby d6_38) ?_
    show Steps p.tables e below (s₁.setTop (mkF m 40 #[.val (.ref r0), .val (.long q1), .second, .val (.long q2), .second, .val (.long q3), .second, .val (.long q4), .second, .val (.long q5), .second, .val (.long s0), .second, .val (.long s1), .second, .val (.long s2), .second, .unset, .unset, .unset, .unset, .unset, .unset] [(.int (52 : Int32)), (.long s2), (.long (q4 - (68719476736 : Int64)))])) _
    refine XS.lshr X0.here hx rfl (hb hby d6_40) rfl ?_
    show Steps p.tables e below (s₁.setTop (mkF m 41 #[.val (.ref r0), .val (.long q1), .second, .val (.long q2), .second, .val (.long q3), .second, .val (.long q4), .second, .val (.long q5), .second, .val (.long s0), .second, .val (.long s1), .second, .val (.long s2), .second, .unset, .unset, .unset, .unset, .unset, .unset] [(.long (s2 >>> ((52 : Int32) &&& 0x3f).toInt64)), (.long (q4 - (68719476736 : Int64)))])) _
    refine XS.ladd X0.here hx rfl (hb hby d6_41) rfl ?_
    show Steps p.tables e below (s₁.setTop (mkF m 42 #[.val (.ref r0), .val (.long q1), .second, .val (.long q2), .second, .val (.long q3), .second, .val (.long q4), .second, .val (.long q5), .second, .val (.long s0), .second, .val (.long s1), .second, .val (.long s2), .second, .unset, .unset, .unset, .unset, .unset, .unset] [(.long ((q4 - (68719476736 : Int64)) + (s2 >>> ((52 : Int32) &&& 0x3f).toInt64)))])) _
    refine XS.lstore X0.here hx rfl (hb hby d6_42) rfl (l' := #[.val (.ref r0), .val (.long q1), .second, .val (.long q2), .second, .val (.long q3), .second, .val (.long q4), .second, .val (.long q5), .second, .val (.long s0), .second, .val (.long s1), .second, .val (.long s2), .second, .val (.long ((q4 - (68719476736 : Int64)) + (s2 >>> ((52 : Int32) &&& 0x3f).toInt64))), .second, .unset, .unset, .unset, .unset]) rfl ?_
    show Steps p.tables e below (s₁.setTop (mkF m 44 #[.val (.ref r0), .val (.long q1), .second, .val (.long q2), .second, .val (.long q3), .second, .val (.long q4), .second, .val (.long q5), .second, .val (.long s0), .second, .val (.long s1), .second, .val (.long s2), .second, .val (.long ((q4 - (68719476736 : Int64)) + (s2 >>> ((52 : Int32) &&& 0x3f).toInt64))), .second, .unset, .unset, .unset, .unset] [])) _
    exact k
  obtain ⟨s3, h_s3⟩ : ∃ z : Int64, z = ((q4 - (68719476736 : Int64)) + (s2 >>> ((52 : Int32) &&& 0x3f).toInt64)) := ⟨_, rfl⟩
  rw [← h_s3]
  refine own_go (T' := s₁) (g' := (mkF m 58 #[.val (.ref r0), .val (.long q1), .second, .val (.long q2), .second, .val (.long q3), .second, .val (.long q4), .second, .val (.long q5), .second, .val (.long s0), .second, .val (.long s1), .second, .val (.long s2), .second, .val (.long s3), .second, .val (.long ((q5 - (281474976645120 : Int64)) + (s3 >>> ((52 : Int32) &&& 0x3f).toInt64))), .second, .unset, .unset] [])) (fun t k => ?_) ?_
  · show Steps p.tables e below (s₁.setTop (mkF m 44 #[.val (.ref r0), .val (.long q1), .second, .val (.long q2), .second, .val (.long q3), .second, .val (.long q4), .second, .val (.long q5), .second, .val (.long s0), .second, .val (.long s1), .second, .val (.long s2), .second, .val (.long s3), .second, .unset, .unset, .unset, .unset] [])) t
    refine XS.lload X0.here hx rfl (hb hby d6_44) rfl ?_
    show Steps p.tables e below (s₁.setTop (mkF m 46 #[.val (.ref r0), .val (.long q1), .second, .val (.long q2), .second, .val (.long q3), .second, .val (.long q4), .second, .val (.long q5), .second, .val (.long s0), .second, .val (.long s1), .second, .val (.long s2), .second, .val (.long s3), .second, .unset, .unset, .unset, .unset] [(.long q5)])) _
    refine X0.ldc2Long hx hown (mvT hZ (hw _ (List.mem_of_getElem? (i := 21) rfl))) (g := (mkF m 46 #[.val (.ref r0), .val (.long q1), .second, .val (.long q2), .second, .val (.long q3), .second, .val (.long q4), .second, .val (.long q5), .second, .val (.long s0), .second, .val (.long s1), .second, .val (.long s2), .second, .val (.long s3), .second, .unset, .unset, .unset, .unset] [(.long q5)])) rfl (hb hby d6_46) _ ?_
    show Steps p.tables e below (s₁.setTop (mkF m 49 #[.val (.ref r0), .val (.long q1), .second, .val (.long q2), .second, .val (.long q3), .second, .val (.long q4), .second, .val (.long q5), .second, .val (.long s0), .second, .val (.long s1), .second, .val (.long s2), .second, .val (.long s3), .second, .unset, .unset, .unset, .unset] [(.long (281474976645120 : Int64)), (.long q5)])) _
    refine XS.lsub X0.here hx rfl (hb hby d6_49) rfl ?_
    show Steps p.tables e below (s₁.setTop (mkF m 50 #[.val (.ref r0), .val (.long q1), .second, .val (.long q2), .second, .val (.long q3), .second, .val (.long q4), .second, .val (.long q5), .second, .val (.long s0), .second, .val (.long s1), .second, .val (.long s2), .second, .val (.long s3), .second, .unset, .unset, .unset, .unset] [(.long (q5 - (281474976645120 : Int64)))])) _
    refine XS.lload X0.here hx rfl (hb hby d6_50) rfl ?_
    show Steps p.tables e below (s₁.setTop (mkF m 52 #[.val (.ref r0), .val (.long q1), .second, .val (.long q2), .second, .val (.long q3), .second, .val (.long q4), .second, .val (.long q5), .second, .val (.long s0), .second, .val (.long s1), .second, .val (.long s2), .second, .val (.long s3), .second, .unset, .unset, .unset, .unset] [(.long s3), (.long (q5 - (281474976645120 : Int64)))])) _
    refine XS.bipush X0.here hx rfl (hb hby d6_52) ?_
    show Steps p.tables e below (s₁.setTop (mkF m 54 #[.val (.ref r0), .val (.long q1), .second, .val (.long q2), .second, .val (.long q3), .second, .val (.long q4), .second, .val (.long q5), .second, .val (.long s0), .second, .val (.long s1), .second, .val (.long s2), .second, .val (.long s3), .second, .unset, .unset, .unset, .unset] [(.int (52 : Int32)), (.long s3), (.long (q5 - (281474976645120 : Int64)))])) _
    refine XS.lshr X0.here hx rfl (hb hby d6_54) rfl ?_
    show Steps p.tables e below (s₁.setTop (mkF m 55 #[.val (.ref r0), .val (.long q1), .second, .val (.long q2), .second, .val (.long q3), .second, .val (.long q4), .second, .val (.long q5), .second, .val (.long s0), .second, .val (.long s1), .second, .val (.long s2), .second, .val (.long s3), .second, .unset, .unset, .unset, .unset] [(.long (s3 >>> ((52 : Int32) &&& 0x3f).toInt64)), (.long (q5 - (281474976645120 : Int64)))])) _
    refine XS.ladd X0.here hx rfl (hb hby d6_55) rfl ?_
    show Steps p.tables e below (s₁.setTop (mkF m 56 #[.val (.ref r0), .val (.long q1), .second, .val (.long q2), .second, .val (.long q3), .second, .val (.long q4), .second, .val (.long q5), .second, .val (.long s0), .second, .val (.long s1), .second, .val (.long s2), .second, .val (.long s3), .second, .unset, .unset, .unset, .unset] [(.long ((q5 - (281474976645120 : Int64)) + (s3 >>> ((52 : Int32) &&& 0x3f).toInt64)))])) _
    refine XS.lstore X0.here hx rfl (hb hby d6_56) rfl (l' := #[.val (.ref r0), .val (.long q1), .second, .val (.long q2), .second, .val (.long q3), .second, .val (.long q4), .second, .val (.long q5), .second, .val (.long s0), .second, .val (.long s1), .second, .val (.long s2), .second, .val (.long s3), .second, .val (.long ((q5 - (281474976645120 : Int64)) + (s3 >>> ((52 : Int32) &&& 0x3f).toInt64))), .second, .unset, .unset]) rfl ?_
    show Steps p.tables e below (s₁.setTop (mkF m 58 #[.val (.ref r0), .val (.long q1), .second, .val (.long q2), .second, .val (.long q3), .second, .val (.long q4), .second, .val (.long q5), .second, .val (.long s0), .second, .val (.long s1), .second, .val (.long s2), .second, .val (.long s3), .second, .val (.long ((q5 - (281474976645120 : Int64)) + (s3 >>> ((52 : Int32) &&& 0x3f).toInt64))), .second, .unset, .unset] [])) _
    exact k
  obtain ⟨s4, h_s4⟩ : ∃ z : Int64, z = ((q5 - (281474976645120 : Int64)) + (s3 >>> ((52 : Int32) &&& 0x3f).toInt64)) := ⟨_, rfl⟩
  rw [← h_s4]
  refine own_go (T' := s₁) (g' := (mkF m 65 #[.val (.ref r0), .val (.long q1), .second, .val (.long q2), .second, .val (.long q3), .second, .val (.long q4), .second, .val (.long q5), .second, .val (.long s0), .second, .val (.long s1), .second, .val (.long s2), .second, .val (.long s3), .second, .val (.long s4), .second, .val (.long (s4 >>> ((63 : Int32) &&& 0x3f).toInt64)), .second] [])) (fun t k => ?_) ?_
  · show Steps p.tables e below (s₁.setTop (mkF m 58 #[.val (.ref r0), .val (.long q1), .second, .val (.long q2), .second, .val (.long q3), .second, .val (.long q4), .second, .val (.long q5), .second, .val (.long s0), .second, .val (.long s1), .second, .val (.long s2), .second, .val (.long s3), .second, .val (.long s4), .second, .unset, .unset] [])) t
    refine XS.lload X0.here hx rfl (hb hby d6_58) rfl ?_
    show Steps p.tables e below (s₁.setTop (mkF m 60 #[.val (.ref r0), .val (.long q1), .second, .val (.long q2), .second, .val (.long q3), .second, .val (.long q4), .second, .val (.long q5), .second, .val (.long s0), .second, .val (.long s1), .second, .val (.long s2), .second, .val (.long s3), .second, .val (.long s4), .second, .unset, .unset] [(.long s4)])) _
    refine XS.bipush X0.here hx rfl (hb hby d6_60) ?_
    show Steps p.tables e below (s₁.setTop (mkF m 62 #[.val (.ref r0), .val (.long q1), .second, .val (.long q2), .second, .val (.long q3), .second, .val (.long q4), .second, .val (.long q5), .second, .val (.long s0), .second, .val (.long s1), .second, .val (.long s2), .second, .val (.long s3), .second, .val (.long s4), .second, .unset, .unset] [(.int (63 : Int32)), (.long s4)])) _
    refine XS.lshr X0.here hx rfl (hb hby d6_62) rfl ?_
    show Steps p.tables e below (s₁.setTop (mkF m 63 #[.val (.ref r0), .val (.long q1), .second, .val (.long q2), .second, .val (.long q3), .second, .val (.long q4), .second, .val (.long q5), .second, .val (.long s0), .second, .val (.long s1), .second, .val (.long s2), .second, .val (.long s3), .second, .val (.long s4), .second, .unset, .unset] [(.long (s4 >>> ((63 : Int32) &&& 0x3f).toInt64))])) _
    refine XS.lstore X0.here hx rfl (hb hby d6_63) rfl (l' := #[.val (.ref r0), .val (.long q1), .second, .val (.long q2), .second, .val (.long q3), .second, .val (.long q4), .second, .val (.long q5), .second, .val (.long s0), .second, .val (.long s1), .second, .val (.long s2), .second, .val (.long s3), .second, .val (.long s4), .second, .val (.long (s4 >>> ((63 : Int32) &&& 0x3f).toInt64)), .second]) rfl ?_
    show Steps p.tables e below (s₁.setTop (mkF m 65 #[.val (.ref r0), .val (.long q1), .second, .val (.long q2), .second, .val (.long q3), .second, .val (.long q4), .second, .val (.long q5), .second, .val (.long s0), .second, .val (.long s1), .second, .val (.long s2), .second, .val (.long s3), .second, .val (.long s4), .second, .val (.long (s4 >>> ((63 : Int32) &&& 0x3f).toInt64)), .second] [])) _
    exact k
  obtain ⟨m2, h_m2⟩ : ∃ z : Int64, z = (s4 >>> ((63 : Int32) &&& 0x3f).toInt64) := ⟨_, rfl⟩
  rw [← h_m2]
  refine own_go (T' := s₁) (g' := (mkF m 85 #[.val (.ref r0), .val (.long q1), .second, .val (.long q2), .second, .val (.long q3), .second, .val (.long q4), .second, .val (.long q5), .second, .val (.long s0), .second, .val (.long s1), .second, .val (.long s2), .second, .val (.long s3), .second, .val (.long s4), .second, .val (.long m2), .second] [(.long ((q1 &&& m2) ||| ((s0 &&& (4503599627370495 : Int64)) &&& (m2 ^^^ (-1 : Int64))))), (.int (0 : Int32)), (.ref r0)])) (fun t k => ?_) ?_
  · show Steps p.tables e below (s₁.setTop (mkF m 65 #[.val (.ref r0), .val (.long q1), .second, .val (.long q2), .second, .val (.long q3), .second, .val (.long q4), .second, .val (.long q5), .second, .val (.long s0), .second, .val (.long s1), .second, .val (.long s2), .second, .val (.long s3), .second, .val (.long s4), .second, .val (.long m2), .second] [])) t
    refine XS.aloadN X0.here hx rfl (hb hby d6_65) rfl rfl ?_
    show Steps p.tables e below (s₁.setTop (mkF m 66 #[.val (.ref r0), .val (.long q1), .second, .val (.long q2), .second, .val (.long q3), .second, .val (.long q4), .second, .val (.long q5), .second, .val (.long s0), .second, .val (.long s1), .second, .val (.long s2), .second, .val (.long s3), .second, .val (.long s4), .second, .val (.long m2), .second] [(.ref r0)])) _
    refine XS.iconst X0.here hx rfl (hb hby d6_66) ?_
    show Steps p.tables e below (s₁.setTop (mkF m 67 #[.val (.ref r0), .val (.long q1), .second, .val (.long q2), .second, .val (.long q3), .second, .val (.long q4), .second, .val (.long q5), .second, .val (.long s0), .second, .val (.long s1), .second, .val (.long s2), .second, .val (.long s3), .second, .val (.long s4), .second, .val (.long m2), .second] [(.int (0 : Int32)), (.ref r0)])) _
    refine XS.lloadN X0.here hx rfl (hb hby d6_67) rfl ?_
    show Steps p.tables e below (s₁.setTop (mkF m 68 #[.val (.ref r0), .val (.long q1), .second, .val (.long q2), .second, .val (.long q3), .second, .val (.long q4), .second, .val (.long q5), .second, .val (.long s0), .second, .val (.long s1), .second, .val (.long s2), .second, .val (.long s3), .second, .val (.long s4), .second, .val (.long m2), .second] [(.long q1), (.int (0 : Int32)), (.ref r0)])) _
    refine XS.lload X0.here hx rfl (hb hby d6_68) rfl ?_
    show Steps p.tables e below (s₁.setTop (mkF m 70 #[.val (.ref r0), .val (.long q1), .second, .val (.long q2), .second, .val (.long q3), .second, .val (.long q4), .second, .val (.long q5), .second, .val (.long s0), .second, .val (.long s1), .second, .val (.long s2), .second, .val (.long s3), .second, .val (.long s4), .second, .val (.long m2), .second] [(.long m2), (.long q1), (.int (0 : Int32)), (.ref r0)])) _
    refine XS.land X0.here hx rfl (hb hby d6_70) rfl ?_
    show Steps p.tables e below (s₁.setTop (mkF m 71 #[.val (.ref r0), .val (.long q1), .second, .val (.long q2), .second, .val (.long q3), .second, .val (.long q4), .second, .val (.long q5), .second, .val (.long s0), .second, .val (.long s1), .second, .val (.long s2), .second, .val (.long s3), .second, .val (.long s4), .second, .val (.long m2), .second] [(.long (q1 &&& m2)), (.int (0 : Int32)), (.ref r0)])) _
    refine XS.lload X0.here hx rfl (hb hby d6_71) rfl ?_
    show Steps p.tables e below (s₁.setTop (mkF m 73 #[.val (.ref r0), .val (.long q1), .second, .val (.long q2), .second, .val (.long q3), .second, .val (.long q4), .second, .val (.long q5), .second, .val (.long s0), .second, .val (.long s1), .second, .val (.long s2), .second, .val (.long s3), .second, .val (.long s4), .second, .val (.long m2), .second] [(.long s0), (.long (q1 &&& m2)), (.int (0 : Int32)), (.ref r0)])) _
    refine X0.ldc2Long hx hown (mvT hZ (hw _ (List.mem_of_getElem? (i := 18) rfl))) (g := (mkF m 73 #[.val (.ref r0), .val (.long q1), .second, .val (.long q2), .second, .val (.long q3), .second, .val (.long q4), .second, .val (.long q5), .second, .val (.long s0), .second, .val (.long s1), .second, .val (.long s2), .second, .val (.long s3), .second, .val (.long s4), .second, .val (.long m2), .second] [(.long s0), (.long (q1 &&& m2)), (.int (0 : Int32)), (.ref r0)])) rfl (hb hby d6_73) _ ?_
    show Steps p.tables e below (s₁.setTop (mkF m 76 #[.val (.ref r0), .val (.long q1), .second, .val (.long q2), .second, .val (.long q3), .second, .val (.long q4), .second, .val (.long q5), .second, .val (.long s0), .second, .val (.long s1), .second, .val (.long s2), .second, .val (.long s3), .second, .val (.long s4), .second, .val (.long m2), .second] [(.long (4503599627370495 : Int64)), (.long s0), (.long (q1 &&& m2)), (.int (0 : Int32)), (.ref r0)])) _
    refine XS.land X0.here hx rfl (hb hby d6_76) rfl ?_
    show Steps p.tables e below (s₁.setTop (mkF m 77 #[.val (.ref r0), .val (.long q1), .second, .val (.long q2), .second, .val (.long q3), .second, .val (.long q4), .second, .val (.long q5), .second, .val (.long s0), .second, .val (.long s1), .second, .val (.long s2), .second, .val (.long s3), .second, .val (.long s4), .second, .val (.long m2), .second] [(.long (s0 &&& (4503599627370495 : Int64))), (.long (q1 &&& m2)), (.int (0 : Int32)), (.ref r0)])) _
    refine XS.lload X0.here hx rfl (hb hby d6_77) rfl ?_
    show Steps p.tables e below (s₁.setTop (mkF m 79 #[.val (.ref r0), .val (.long q1), .second, .val (.long q2), .second, .val (.long q3), .second, .val (.long q4), .second, .val (.long q5), .second, .val (.long s0), .second, .val (.long s1), .second, .val (.long s2), .second, .val (.long s3), .second, .val (.long s4), .second, .val (.long m2), .second] [(.long m2), (.long (s0 &&& (4503599627370495 : Int64))), (.long (q1 &&& m2)), (.int (0 : Int32)), (.ref r0)])) _
    refine X0.ldc2Long hx hown (mvT hZ (hw _ (List.mem_of_getElem? (i := 31) rfl))) (g := (mkF m 79 #[.val (.ref r0), .val (.long q1), .second, .val (.long q2), .second, .val (.long q3), .second, .val (.long q4), .second, .val (.long q5), .second, .val (.long s0), .second, .val (.long s1), .second, .val (.long s2), .second, .val (.long s3), .second, .val (.long s4), .second, .val (.long m2), .second] [(.long m2), (.long (s0 &&& (4503599627370495 : Int64))), (.long (q1 &&& m2)), (.int (0 : Int32)), (.ref r0)])) rfl (hb hby d6_79) _ ?_
    show Steps p.tables e below (s₁.setTop (mkF m 82 #[.val (.ref r0), .val (.long q1), .second, .val (.long q2), .second, .val (.long q3), .second, .val (.long q4), .second, .val (.long q5), .second, .val (.long s0), .second, .val (.long s1), .second, .val (.long s2), .second, .val (.long s3), .second, .val (.long s4), .second, .val (.long m2), .second] [(.long (-1 : Int64)), (.long m2), (.long (s0 &&& (4503599627370495 : Int64))), (.long (q1 &&& m2)), (.int (0 : Int32)), (.ref r0)])) _
    refine XS.lxor X0.here hx rfl (hb hby d6_82) rfl ?_
    show Steps p.tables e below (s₁.setTop (mkF m 83 #[.val (.ref r0), .val (.long q1), .second, .val (.long q2), .second, .val (.long q3), .second, .val (.long q4), .second, .val (.long q5), .second, .val (.long s0), .second, .val (.long s1), .second, .val (.long s2), .second, .val (.long s3), .second, .val (.long s4), .second, .val (.long m2), .second] [(.long (m2 ^^^ (-1 : Int64))), (.long (s0 &&& (4503599627370495 : Int64))), (.long (q1 &&& m2)), (.int (0 : Int32)), (.ref r0)])) _
    refine XS.land X0.here hx rfl (hb hby d6_83) rfl ?_
    show Steps p.tables e below (s₁.setTop (mkF m 84 #[.val (.ref r0), .val (.long q1), .second, .val (.long q2), .second, .val (.long q3), .second, .val (.long q4), .second, .val (.long q5), .second, .val (.long s0), .second, .val (.long s1), .second, .val (.long s2), .second, .val (.long s3), .second, .val (.long s4), .second, .val (.long m2), .second] [(.long ((s0 &&& (4503599627370495 : Int64)) &&& (m2 ^^^ (-1 : Int64)))), (.long (q1 &&& m2)), (.int (0 : Int32)), (.ref r0)])) _
    refine XS.lor X0.here hx rfl (hb hby d6_84) rfl ?_
    show Steps p.tables e below (s₁.setTop (mkF m 85 #[.val (.ref r0), .val (.long q1), .second, .val (.long q2), .second, .val (.long q3), .second, .val (.long q4), .second, .val (.long q5), .second, .val (.long s0), .second, .val (.long s1), .second, .val (.long s2), .second, .val (.long s3), .second, .val (.long s4), .second, .val (.long m2), .second] [(.long ((q1 &&& m2) ||| ((s0 &&& (4503599627370495 : Int64)) &&& (m2 ^^^ (-1 : Int64))))), (.int (0 : Int32)), (.ref r0)])) _
    exact k
  obtain ⟨T1, h1, L1, X1, N1, e1, W1, Y1, st1⟩ := own_stJ X0 hx hZ e0 V0 (j := (0 : Int32)) (by decide) 0 rfl (Nat.le_of_ble_eq_true rfl) N0 ga_r0 (g := (mkF m 85 #[.val (.ref r0), .val (.long q1), .second, .val (.long q2), .second, .val (.long q3), .second, .val (.long q4), .second, .val (.long q5), .second, .val (.long s0), .second, .val (.long s1), .second, .val (.long s2), .second, .val (.long s3), .second, .val (.long s4), .second, .val (.long m2), .second] [(.long ((q1 &&& m2) ||| ((s0 &&& (4503599627370495 : Int64)) &&& (m2 ^^^ (-1 : Int64))))), (.int (0 : Int32)), (.ref r0)])) rfl rfl (hb hby d6_85)
  have K1 := K0.wr W1 (Or.inl (List.mem_of_getElem? (i := 0) rfl))
  have V_r0_1 : Arv Z h1 r0 k0 .long (5 : Int32) [(.long ((q1 &&& m2) ||| ((s0 &&& (4503599627370495 : Int64)) &&& (m2 ^^^ (-1 : Int64))))), (.long O1), (.long O2), (.long O3), (.long O4)] (.long (0 : Int64)) := Y1
  have sz_1 := Nat.le_trans Z0 (Nat.le_of_eq (Wr.size W1).symm)
  refine own_go (T' := T1) (g' := (mkF m 86 #[.val (.ref r0), .val (.long q1), .second, .val (.long q2), .second, .val (.long q3), .second, .val (.long q4), .second, .val (.long q5), .second, .val (.long s0), .second, .val (.long s1), .second, .val (.long s2), .second, .val (.long s3), .second, .val (.long s4), .second, .val (.long m2), .second] [])) st1 ?_
  refine own_go (T' := T1) (g' := (mkF m 106 #[.val (.ref r0), .val (.long q1), .second, .val (.long q2), .second, .val (.long q3), .second, .val (.long q4), .second, .val (.long q5), .second, .val (.long s0), .second, .val (.long s1), .second, .val (.long s2), .second, .val (.long s3), .second, .val (.long s4), .second, .val (.long m2), .second] [(.long ((q2 &&& m2) ||| ((s1 &&& (4503599627370495 : Int64)) &&& (m2 ^^^ (-1 : Int64))))), (.int (1 : Int32)), (.ref r0)])) (fun t k => ?_) ?_
  · show Steps p.tables e below (T1.setTop (mkF m 86 #[.val (.ref r0), .val (.long q1), .second, .val (.long q2), .second, .val (.long q3), .second, .val (.long q4), .second, .val (.long q5), .second, .val (.long s0), .second, .val (.long s1), .second, .val (.long s2), .second, .val (.long s3), .second, .val (.long s4), .second, .val (.long m2), .second] [])) t
    refine XS.aloadN X1.here hx rfl (hb hby d6_86) rfl rfl ?_
    show Steps p.tables e below (T1.setTop (mkF m 87 #[.val (.ref r0), .val (.long q1), .second, .val (.long q2), .second, .val (.long q3), .second, .val (.long q4), .second, .val (.long q5), .second, .val (.long s0), .second, .val (.long s1), .second, .val (.long s2), .second, .val (.long s3), .second, .val (.long s4), .second, .val (.long m2), .second] [(.ref r0)])) _
    refine XS.iconst X1.here hx rfl (hb hby d6_87) ?_
    show Steps p.tables e below (T1.setTop (mkF m 88 #[.val (.ref r0), .val (.long q1), .second, .val (.long q2), .second, .val (.long q3), .second, .val (.long q4), .second, .val (.long q5), .second, .val (.long s0), .second, .val (.long s1), .second, .val (.long s2), .second, .val (.long s3), .second, .val (.long s4), .second, .val (.long m2), .second] [(.int (1 : Int32)), (.ref r0)])) _
    refine XS.lloadN X1.here hx rfl (hb hby d6_88) rfl ?_
    show Steps p.tables e below (T1.setTop (mkF m 89 #[.val (.ref r0), .val (.long q1), .second, .val (.long q2), .second, .val (.long q3), .second, .val (.long q4), .second, .val (.long q5), .second, .val (.long s0), .second, .val (.long s1), .second, .val (.long s2), .second, .val (.long s3), .second, .val (.long s4), .second, .val (.long m2), .second] [(.long q2), (.int (1 : Int32)), (.ref r0)])) _
    refine XS.lload X1.here hx rfl (hb hby d6_89) rfl ?_
    show Steps p.tables e below (T1.setTop (mkF m 91 #[.val (.ref r0), .val (.long q1), .second, .val (.long q2), .second, .val (.long q3), .second, .val (.long q4), .second, .val (.long q5), .second, .val (.long s0), .second, .val (.long s1), .second, .val (.long s2), .second, .val (.long s3), .second, .val (.long s4), .second, .val (.long m2), .second] [(.long m2), (.long q2), (.int (1 : Int32)), (.ref r0)])) _
    refine XS.land X1.here hx rfl (hb hby d6_91) rfl ?_
    show Steps p.tables e below (T1.setTop (mkF m 92 #[.val (.ref r0), .val (.long q1), .second, .val (.long q2), .second, .val (.long q3), .second, .val (.long q4), .second, .val (.long q5), .second, .val (.long s0), .second, .val (.long s1), .second, .val (.long s2), .second, .val (.long s3), .second, .val (.long s4), .second, .val (.long m2), .second] [(.long (q2 &&& m2)), (.int (1 : Int32)), (.ref r0)])) _
    refine XS.lload X1.here hx rfl (hb hby d6_92) rfl ?_
    show Steps p.tables e below (T1.setTop (mkF m 94 #[.val (.ref r0), .val (.long q1), .second, .val (.long q2), .second, .val (.long q3), .second, .val (.long q4), .second, .val (.long q5), .second, .val (.long s0), .second, .val (.long s1), .second, .val (.long s2), .second, .val (.long s3), .second, .val (.long s4), .second, .val (.long m2), .second] [(.long s1), (.long (q2 &&& m2)), (.int (1 : Int32)), (.ref r0)])) _
    refine X1.ldc2Long hx hown (mvT hZ (hw _ (List.mem_of_getElem? (i := 18) rfl))) (g := (mkF m 94 #[.val (.ref r0), .val (.long q1), .second, .val (.long q2), .second, .val (.long q3), .second, .val (.long q4), .second, .val (.long q5), .second, .val (.long s0), .second, .val (.long s1), .second, .val (.long s2), .second, .val (.long s3), .second, .val (.long s4), .second, .val (.long m2), .second] [(.long s1), (.long (q2 &&& m2)), (.int (1 : Int32)), (.ref r0)])) rfl (hb hby d6_94) _ ?_
    show Steps p.tables e below (T1.setTop (mkF m 97 #[.val (.ref r0), .val (.long q1), .second, .val (.long q2), .second, .val (.long q3), .second, .val (.long q4), .second, .val (.long q5), .second, .val (.long s0), .second, .val (.long s1), .second, .val (.long s2), .second, .val (.long s3), .second, .val (.long s4), .second, .val (.long m2), .second] [(.long (4503599627370495 : Int64)), (.long s1), (.long (q2 &&& m2)), (.int (1 : Int32)), (.ref r0)])) _
    refine XS.land X1.here hx rfl (hb hby d6_97) rfl ?_
    show Steps p.tables e below (T1.setTop (mkF m 98 #[.val (.ref r0), .val (.long q1), .second, .val (.long q2), .second, .val (.long q3), .second, .val (.long q4), .second, .val (.long q5), .second, .val (.long s0), .second, .val (.long s1), .second, .val (.long s2), .second, .val (.long s3), .second, .val (.long s4), .second, .val (.long m2), .second] [(.long (s1 &&& (4503599627370495 : Int64))), (.long (q2 &&& m2)), (.int (1 : Int32)), (.ref r0)])) _
    refine XS.lload X1.here hx rfl (hb hby d6_98) rfl ?_
    show Steps p.tables e below (T1.setTop (mkF m 100 #[.val (.ref r0), .val (.long q1), .second, .val (.long q2), .second, .val (.long q3), .second, .val (.long q4), .second, .val (.long q5), .second, .val (.long s0), .second, .val (.long s1), .second, .val (.long s2), .second, .val (.long s3), .second, .val (.long s4), .second, .val (.long m2), .second] [(.long m2), (.long (s1 &&& (4503599627370495 : Int64))), (.long (q2 &&& m2)), (.int (1 : Int32)), (.ref r0)])) _
    refine X1.ldc2Long hx hown (mvT hZ (hw _ (List.mem_of_getElem? (i := 31) rfl))) (g := (mkF m 100 #[.val (.ref r0), .val (.long q1), .second, .val (.long q2), .second, .val (.long q3), .second, .val (.long q4), .second, .val (.long q5), .second, .val (.long s0), .second, .val (.long s1), .second, .val (.long s2), .second, .val (.long s3), .second, .val (.long s4), .second, .val (.long m2), .second] [(.long m2), (.long (s1 &&& (4503599627370495 : Int64))), (.long (q2 &&& m2)), (.int (1 : Int32)), (.ref r0)])) rfl (hb hby d6_100) _ ?_
    show Steps p.tables e below (T1.setTop (mkF m 103 #[.val (.ref r0), .val (.long q1), .second, .val (.long q2), .second, .val (.long q3), .second, .val (.long q4), .second, .val (.long q5), .second, .val (.long s0), .second, .val (.long s1), .second, .val (.long s2), .second, .val (.long s3), .second, .val (.long s4), .second, .val (.long m2), .second] [(.long (-1 : Int64)), (.long m2), (.long (s1 &&& (4503599627370495 : Int64))), (.long (q2 &&& m2)), (.int (1 : Int32)), (.ref r0)])) _
    refine XS.lxor X1.here hx rfl (hb hby d6_103) rfl ?_
    show Steps p.tables e below (T1.setTop (mkF m 104 #[.val (.ref r0), .val (.long q1), .second, .val (.long q2), .second, .val (.long q3), .second, .val (.long q4), .second, .val (.long q5), .second, .val (.long s0), .second, .val (.long s1), .second, .val (.long s2), .second, .val (.long s3), .second, .val (.long s4), .second, .val (.long m2), .second] [(.long (m2 ^^^ (-1 : Int64))), (.long (s1 &&& (4503599627370495 : Int64))), (.long (q2 &&& m2)), (.int (1 : Int32)), (.ref r0)])) _
    refine XS.land X1.here hx rfl (hb hby d6_104) rfl ?_
    show Steps p.tables e below (T1.setTop (mkF m 105 #[.val (.ref r0), .val (.long q1), .second, .val (.long q2), .second, .val (.long q3), .second, .val (.long q4), .second, .val (.long q5), .second, .val (.long s0), .second, .val (.long s1), .second, .val (.long s2), .second, .val (.long s3), .second, .val (.long s4), .second, .val (.long m2), .second] [(.long ((s1 &&& (4503599627370495 : Int64)) &&& (m2 ^^^ (-1 : Int64)))), (.long (q2 &&& m2)), (.int (1 : Int32)), (.ref r0)])) _
    refine XS.lor X1.here hx rfl (hb hby d6_105) rfl ?_
    show Steps p.tables e below (T1.setTop (mkF m 106 #[.val (.ref r0), .val (.long q1), .second, .val (.long q2), .second, .val (.long q3), .second, .val (.long q4), .second, .val (.long q5), .second, .val (.long s0), .second, .val (.long s1), .second, .val (.long s2), .second, .val (.long s3), .second, .val (.long s4), .second, .val (.long m2), .second] [(.long ((q2 &&& m2) ||| ((s1 &&& (4503599627370495 : Int64)) &&& (m2 ^^^ (-1 : Int64))))), (.int (1 : Int32)), (.ref r0)])) _
    exact k
  obtain ⟨T2, h2, L2, X2, N2, e2, W2, Y2, st2⟩ := own_stJ X1 hx hZ e1 V_r0_1 (j := (1 : Int32)) (by decide) 1 rfl (Nat.le_of_ble_eq_true rfl) N1 ga_r0 (g := (mkF m 106 #[.val (.ref r0), .val (.long q1), .second, .val (.long q2), .second, .val (.long q3), .second, .val (.long q4), .second, .val (.long q5), .second, .val (.long s0), .second, .val (.long s1), .second, .val (.long s2), .second, .val (.long s3), .second, .val (.long s4), .second, .val (.long m2), .second] [(.long ((q2 &&& m2) ||| ((s1 &&& (4503599627370495 : Int64)) &&& (m2 ^^^ (-1 : Int64))))), (.int (1 : Int32)), (.ref r0)])) rfl rfl (hb hby d6_106)
  have K2 := K1.wr W2 (Or.inl (List.mem_of_getElem? (i := 0) rfl))
  have V_r0_2 : Arv Z h2 r0 k0 .long (5 : Int32) [(.long ((q1 &&& m2) ||| ((s0 &&& (4503599627370495 : Int64)) &&& (m2 ^^^ (-1 : Int64))))), (.long ((q2 &&& m2) ||| ((s1 &&& (4503599627370495 : Int64)) &&& (m2 ^^^ (-1 : Int64))))), (.long O2), (.long O3), (.long O4)] (.long (0 : Int64)) := Y2
  have sz_2 := Nat.le_trans sz_1 (Nat.le_of_eq (Wr.size W2).symm)
  refine own_go (T' := T2) (g' := (mkF m 107 #[.val (.ref r0), .val (.long q1), .second, .val (.long q2), .second, .val (.long q3), .second, .val (.long q4), .second, .val (.long q5), .second, .val (.long s0), .second, .val (.long s1), .second, .val (.long s2), .second, .val (.long s3), .second, .val (.long s4), .second, .val (.long m2), .second] [])) st2 ?_
  refine own_go (T' := T2) (g' := (mkF m 128 #[.val (.ref r0), .val (.long q1), .second, .val (.long q2), .second, .val (.long q3), .second, .val (.long q4), .second, .val (.long q5), .second, .val (.long s0), .second, .val (.long s1), .second, .val (.long s2), .second, .val (.long s3), .second, .val (.long s4), .second, .val (.long m2), .second] [(.long ((q3 &&& m2) ||| ((s2 &&& (4503599627370495 : Int64)) &&& (m2 ^^^ (-1 : Int64))))), (.int (2 : Int32)), (.ref r0)])) (fun t k => ?_) ?_
  · show Steps p.tables e below (T2.setTop (mkF m 107 #[.val (.ref r0), .val (.long q1), .second, .val (.long q2), .second, .val (.long q3), .second, .val (.long q4), .second, .val (.long q5), .second, .val (.long s0), .second, .val (.long s1), .second, .val (.long s2), .second, .val (.long s3), .second, .val (.long s4), .second, .val (.long m2), .second] [])) t
    refine XS.aloadN X2.here hx rfl (hb hby d6_107) rfl rfl ?_
    show Steps p.tables e below (T2.setTop (mkF m 108 #[.val (.ref r0), .val (.long q1), .second, .val (.long q2), .second, .val (.long q3), .second, .val (.long q4), .second, .val (.long q5), .second, .val (.long s0), .second, .val (.long s1), .second, .val (.long s2), .second, .val (.long s3), .second, .val (.long s4), .second, .val (.long m2), .second] [(.ref r0)])) _
    refine XS.iconst X2.here hx rfl (hb hby d6_108) ?_
    show Steps p.tables e below (T2.setTop (mkF m 109 #[.val (.ref r0), .val (.long q1), .second, .val (.long q2), .second, .val (.long q3), .second, .val (.long q4), .second, .val (.long q5), .second, .val (.long s0), .second, .val (.long s1), .second, .val (.long s2), .second, .val (.long s3), .second, .val (.long s4), .second, .val (.long m2), .second] [(.int (2 : Int32)), (.ref r0)])) _
    refine XS.lload X2.here hx rfl (hb hby d6_109) rfl ?_
    show Steps p.tables e below (T2.setTop (mkF m 111 #[.val (.ref r0), .val (.long q1), .second, .val (.long q2), .second, .val (.long q3), .second, .val (.long q4), .second, .val (.long q5), .second, .val (.long s0), .second, .val (.long s1), .second, .val (.long s2), .second, .val (.long s3), .second, .val (.long s4), .second, .val (.long m2), .second] [(.long q3), (.int (2 : Int32)), (.ref r0)])) _
    refine XS.lload X2.here hx rfl (hb hby d6_111) rfl ?_
    show Steps p.tables e below (T2.setTop (mkF m 113 #[.val (.ref r0), .val (.long q1), .second, .val (.long q2), .second, .val (.long q3), .second, .val (.long q4), .second, .val (.long q5), .second, .val (.long s0), .second, .val (.long s1), .second, .val (.long s2), .second, .val (.long s3), .second, .val (.long s4), .second, .val (.long m2), .second] [(.long m2), (.long q3), (.int (2 : Int32)), (.ref r0)])) _
    refine XS.land X2.here hx rfl (hb hby d6_113) rfl ?_
    show Steps p.tables e below (T2.setTop (mkF m 114 #[.val (.ref r0), .val (.long q1), .second, .val (.long q2), .second, .val (.long q3), .second, .val (.long q4), .second, .val (.long q5), .second, .val (.long s0), .second, .val (.long s1), .second, .val (.long s2), .second, .val (.long s3), .second, .val (.long s4), .second, .val (.long m2), .second] [(.long (q3 &&& m2)), (.int (2 : Int32)), (.ref r0)])) _
    refine XS.lload X2.here hx rfl (hb hby d6_114) rfl ?_
    show Steps p.tables e below (T2.setTop (mkF m 116 #[.val (.ref r0), .val (.long q1), .second, .val (.long q2), .second, .val (.long q3), .second, .val (.long q4), .second, .val (.long q5), .second, .val (.long s0), .second, .val (.long s1), .second, .val (.long s2), .second, .val (.long s3), .second, .val (.long s4), .second, .val (.long m2), .second] [(.long s2), (.long (q3 &&& m2)), (.int (2 : Int32)), (.ref r0)])) _
    refine X2.ldc2Long hx hown (mvT hZ (hw _ (List.mem_of_getElem? (i := 18) rfl))) (g := (mkF m 116 #[.val (.ref r0), .val (.long q1), .second, .val (.long q2), .second, .val (.long q3), .second, .val (.long q4), .second, .val (.long q5), .second, .val (.long s0), .second, .val (.long s1), .second, .val (.long s2), .second, .val (.long s3), .second, .val (.long s4), .second, .val (.long m2), .second] [(.long s2), (.long (q3 &&& m2)), (.int (2 : Int32)), (.ref r0)])) rfl (hb hby d6_116) _ ?_
    show Steps p.tables e below (T2.setTop (mkF m 119 #[.val (.ref r0), .val (.long q1), .second, .val (.long q2), .second, .val (.long q3), .second, .val (.long q4), .second, .val (.long q5), .second, .val (.long s0), .second, .val (.long s1), .second, .val (.long s2), .second, .val (.long s3), .second, .val (.long s4), .second, .val (.long m2), .second] [(.long (4503599627370495 : Int64)), (.long s2), (.long (q3 &&& m2)), (.int (2 : Int32)), (.ref r0)])) _
    refine XS.land X2.here hx rfl (hb hby d6_119) rfl ?_
    show Steps p.tables e below (T2.setTop (mkF m 120 #[.val (.ref r0), .val (.long q1), .second, .val (.long q2), .second, .val (.long q3), .second, .val (.long q4), .second, .val (.long q5), .second, .val (.long s0), .second, .val (.long s1), .second, .val (.long s2), .second, .val (.long s3), .second, .val (.long s4), .second, .val (.long m2), .second] [(.long (s2 &&& (4503599627370495 : Int64))), (.long (q3 &&& m2)), (.int (2 : Int32)), (.ref r0)])) _
    refine XS.lload X2.here hx rfl (hb hby d6_120) rfl ?_
    show Steps p.tables e below (T2.setTop (mkF m 122 #[.val (.ref r0), .val (.long q1), .second, .val (.long q2), .second, .val (.long q3), .second, .val (.long q4), .second, .val (.long q5), .second, .val (.long s0), .second, .val (.long s1), .second, .val (.long s2), .second, .val (.long s3), .second, .val (.long s4), .second, .val (.long m2), .second] [(.long m2), (.long (s2 &&& (4503599627370495 : Int64))), (.long (q3 &&& m2)), (.int (2 : Int32)), (.ref r0)])) _
    refine X2.ldc2Long hx hown (mvT hZ (hw _ (List.mem_of_getElem? (i := 31) rfl))) (g := (mkF m 122 #[.val (.ref r0), .val (.long q1), .second, .val (.long q2), .second, .val (.long q3), .second, .val (.long q4), .second, .val (.long q5), .second, .val (.long s0), .second, .val (.long s1), .second, .val (.long s2), .second, .val (.long s3), .second, .val (.long s4), .second, .val (.long m2), .second] [(.long m2), (.long (s2 &&& (4503599627370495 : Int64))), (.long (q3 &&& m2)), (.int (2 : Int32)), (.ref r0)])) rfl (hb hby d6_122) _ ?_
    show Steps p.tables e below (T2.setTop (mkF m 125 #[.val (.ref r0), .val (.long q1), .second, .val (.long q2), .second, .val (.long q3), .second, .val (.long q4), .second, .val (.long q5), .second, .val (.long s0), .second, .val (.long s1), .second, .val (.long s2), .second, .val (.long s3), .second, .val (.long s4), .second, .val (.long m2), .second] [(.long (-1 : Int64)), (.long m2), (.long (s2 &&& (4503599627370495 : Int64))), (.long (q3 &&& m2)), (.int (2 : Int32)), (.ref r0)])) _
    refine XS.lxor X2.here hx rfl (hb hby d6_125) rfl ?_
    show Steps p.tables e below (T2.setTop (mkF m 126 #[.val (.ref r0), .val (.long q1), .second, .val (.long q2), .second, .val (.long q3), .second, .val (.long q4), .second, .val (.long q5), .second, .val (.long s0), .second, .val (.long s1), .second, .val (.long s2), .second, .val (.long s3), .second, .val (.long s4), .second, .val (.long m2), .second] [(.long (m2 ^^^ (-1 : Int64))), (.long (s2 &&& (4503599627370495 : Int64))), (.long (q3 &&& m2)), (.int (2 : Int32)), (.ref r0)])) _
    refine XS.land X2.here hx rfl (hb hby d6_126) rfl ?_
    show Steps p.tables e below (T2.setTop (mkF m 127 #[.val (.ref r0), .val (.long q1), .second, .val (.long q2), .second, .val (.long q3), .second, .val (.long q4), .second, .val (.long q5), .second, .val (.long s0), .second, .val (.long s1), .second, .val (.long s2), .second, .val (.long s3), .second, .val (.long s4), .second, .val (.long m2), .second] [(.long ((s2 &&& (4503599627370495 : Int64)) &&& (m2 ^^^ (-1 : Int64)))), (.long (q3 &&& m2)), (.int (2 : Int32)), (.ref r0)])) _
    refine XS.lor X2.here hx rfl (hb hby d6_127) rfl ?_
    show Steps p.tables e below (T2.setTop (mkF m 128 #[.val (.ref r0), .val (.long q1), .second, .val (.long q2), .second, .val (.long q3), .second, .val (.long q4), .second, .val (.long q5), .second, .val (.long s0), .second, .val (.long s1), .second, .val (.long s2), .second, .val (.long s3), .second, .val (.long s4), .second, .val (.long m2), .second] [(.long ((q3 &&& m2) ||| ((s2 &&& (4503599627370495 : Int64)) &&& (m2 ^^^ (-1 : Int64))))), (.int (2 : Int32)), (.ref r0)])) _
    exact k
  obtain ⟨T3, h3, L3, X3, N3, e3, W3, Y3, st3⟩ := own_stJ X2 hx hZ e2 V_r0_2 (j := (2 : Int32)) (by decide) 2 rfl (Nat.le_of_ble_eq_true rfl) N2 ga_r0 (g := (mkF m 128 #[.val (.ref r0), .val (.long q1), .second, .val (.long q2), .second, .val (.long q3), .second, .val (.long q4), .second, .val (.long q5), .second, .val (.long s0), .second, .val (.long s1), .second, .val (.long s2), .second, .val (.long s3), .second, .val (.long s4), .second, .val (.long m2), .second] [(.long ((q3 &&& m2) ||| ((s2 &&& (4503599627370495 : Int64)) &&& (m2 ^^^ (-1 : Int64))))), (.int (2 : Int32)), (.ref r0)])) rfl rfl (hb hby d6_128)
  have K3 := K2.wr W3 (Or.inl (List.mem_of_getElem? (i := 0) rfl))
  have V_r0_3 : Arv Z h3 r0 k0 .long (5 : Int32) [(.long ((q1 &&& m2) ||| ((s0 &&& (4503599627370495 : Int64)) &&& (m2 ^^^ (-1 : Int64))))), (.long ((q2 &&& m2) ||| ((s1 &&& (4503599627370495 : Int64)) &&& (m2 ^^^ (-1 : Int64))))), (.long ((q3 &&& m2) ||| ((s2 &&& (4503599627370495 : Int64)) &&& (m2 ^^^ (-1 : Int64))))), (.long O3), (.long O4)] (.long (0 : Int64)) := Y3
  have sz_3 := Nat.le_trans sz_2 (Nat.le_of_eq (Wr.size W3).symm)
  refine own_go (T' := T3) (g' := (mkF m 129 #[.val (.ref r0), .val (.long q1), .second, .val (.long q2), .second, .val (.long q3), .second, .val (.long q4), .second, .val (.long q5), .second, .val (.long s0), .second, .val (.long s1), .second, .val (.long s2), .second, .val (.long s3), .second, .val (.long s4), .second, .val (.long m2), .second] [])) st3 ?_
  refine own_go (T' := T3) (g' := (mkF m 150 #[.val (.ref r0), .val (.long q1), .second, .val (.long q2), .second, .val (.long q3), .second, .val (.long q4), .second, .val (.long q5), .second, .val (.long s0), .second, .val (.long s1), .second, .val (.long s2), .second, .val (.long s3), .second, .val (.long s4), .second, .val (.long m2), .second] [(.long ((q4 &&& m2) ||| ((s3 &&& (4503599627370495 : Int64)) &&& (m2 ^^^ (-1 : Int64))))), (.int (3 : Int32)), (.ref r0)])) (fun t k => ?_) ?_
  · show Steps p.tables e below (T3.setTop (mkF m 129 #[.val (.ref r0), .val (.long q1), .second, .val (.long q2), .second, .val (.long q3), .second, .val (.long q4), .second, .val (.long q5), .second, .val (.long s0), .second, .val (.long s1), .second, .val (.long s2), .second, .val (.long s3), .second, .val (.long s4), .second, .val (.long m2), .second] [])) t
    refine XS.aloadN X3.here hx rfl (hb hby d6_129) rfl rfl ?_
    show Steps p.tables e below (T3.setTop (mkF m 130 #[.val (.ref r0), .val (.long q1), .second, .val (.long q2), .second, .val (.long q3), .second, .val (.long q4), .second, .val (.long q5), .second, .val (.long s0), .second, .val (.long s1), .second, .val (.long s2), .second, .val (.long s3), .second, .val (.long s4), .second, .val (.long m2), .second] [(.ref r0)])) _
    refine XS.iconst X3.here hx rfl (hb hby d6_130) ?_
    show Steps p.tables e below (T3.setTop (mkF m 131 #[.val (.ref r0), .val (.long q1), .second, .val (.long q2), .second, .val (.long q3), .second, .val (.long q4), .second, .val (.long q5), .second, .val (.long s0), .second, .val (.long s1), .second, .val (.long s2), .second, .val (.long s3), .second, .val (.long s4), .second, .val (.long m2), .second] [(.int (3 : Int32)), (.ref r0)])) _
    refine XS.lload X3.here hx rfl (hb hby d6_131) rfl ?_
    show Steps p.tables e below (T3.setTop (mkF m 133 #[.val (.ref r0), .val (.long q1), .second, .val (.long q2), .second, .val (.long q3), .second, .val (.long q4), .second, .val (.long q5), .second, .val (.long s0), .second, .val (.long s1), .second, .val (.long s2), .second, .val (.long s3), .second, .val (.long s4), .second, .val (.long m2), .second] [(.long q4), (.int (3 : Int32)), (.ref r0)])) _
    refine XS.lload X3.here hx rfl (hb hby d6_133) rfl ?_
    show Steps p.tables e below (T3.setTop (mkF m 135 #[.val (.ref r0), .val (.long q1), .second, .val (.long q2), .second, .val (.long q3), .second, .val (.long q4), .second, .val (.long q5), .second, .val (.long s0), .second, .val (.long s1), .second, .val (.long s2), .second, .val (.long s3), .second, .val (.long s4), .second, .val (.long m2), .second] [(.long m2), (.long q4), (.int (3 : Int32)), (.ref r0)])) _
    refine XS.land X3.here hx rfl (hb hby d6_135) rfl ?_
    show Steps p.tables e below (T3.setTop (mkF m 136 #[.val (.ref r0), .val (.long q1), .second, .val (.long q2), .second, .val (.long q3), .second, .val (.long q4), .second, .val (.long q5), .second, .val (.long s0), .second, .val (.long s1), .second, .val (.long s2), .second, .val (.long s3), .second, .val (.long s4), .second, .val (.long m2), .second] [(.long (q4 &&& m2)), (.int (3 : Int32)), (.ref r0)])) _
    refine XS.lload X3.here hx rfl (hb hby d6_136) rfl ?_
    show Steps p.tables e below (T3.setTop (mkF m 138 #[.val (.ref r0), .val (.long q1), .second, .val (.long q2), .second, .val (.long q3), .second, .val (.long q4), .second, .val (.long q5), .second, .val (.long s0), .second, .val (.long s1), .second, .val (.long s2), .second, .val (.long s3), .second, .val (.long s4), .second, .val (.long m2), .second] [(.long s3), (.long (q4 &&& m2)), (.int (3 : Int32)), (.ref r0)])) _
    refine X3.ldc2Long hx hown (mvT hZ (hw _ (List.mem_of_getElem? (i := 18) rfl))) (g := (mkF m 138 #[.val (.ref r0), .val (.long q1), .second, .val (.long q2), .second, .val (.long q3), .second, .val (.long q4), .second, .val (.long q5), .second, .val (.long s0), .second, .val (.long s1), .second, .val (.long s2), .second, .val (.long s3), .second, .val (.long s4), .second, .val (.long m2), .second] [(.long s3), (.long (q4 &&& m2)), (.int (3 : Int32)), (.ref r0)])) rfl (hb hby d6_138) _ ?_
    show Steps p.tables e below (T3.setTop (mkF m 141 #[.val (.ref r0), .val (.long q1), .second, .val (.long q2), .second, .val (.long q3), .second, .val (.long q4), .second, .val (.long q5), .second, .val (.long s0), .second, .val (.long s1), .second, .val (.long s2), .second, .val (.long s3), .second, .val (.long s4), .second, .val (.long m2), .second] [(.long (4503599627370495 : Int64)), (.long s3), (.long (q4 &&& m2)), (.int (3 : Int32)), (.ref r0)])) _
    refine XS.land X3.here hx rfl (hb hby d6_141) rfl ?_
    show Steps p.tables e below (T3.setTop (mkF m 142 #[.val (.ref r0), .val (.long q1), .second, .val (.long q2), .second, .val (.long q3), .second, .val (.long q4), .second, .val (.long q5), .second, .val (.long s0), .second, .val (.long s1), .second, .val (.long s2), .second, .val (.long s3), .second, .val (.long s4), .second, .val (.long m2), .second] [(.long (s3 &&& (4503599627370495 : Int64))), (.long (q4 &&& m2)), (.int (3 : Int32)), (.ref r0)])) _
    refine XS.lload X3.here hx rfl (hb hby d6_142) rfl ?_
    show Steps p.tables e below (T3.setTop (mkF m 144 #[.val (.ref r0), .val (.long q1), .second, .val (.long q2), .second, .val (.long q3), .second, .val (.long q4), .second, .val (.long q5), .second, .val (.long s0), .second, .val (.long s1), .second, .val (.long s2), .second, .val (.long s3), .second, .val (.long s4), .second, .val (.long m2), .second] [(.long m2), (.long (s3 &&& (4503599627370495 : Int64))), (.long (q4 &&& m2)), (.int (3 : Int32)), (.ref r0)])) _
    refine X3.ldc2Long hx hown (mvT hZ (hw _ (List.mem_of_getElem? (i := 31) rfl))) (g := (mkF m 144 #[.val (.ref r0), .val (.long q1), .second, .val (.long q2), .second, .val (.long q3), .second, .val (.long q4), .second, .val (.long q5), .second, .val (.long s0), .second, .val (.long s1), .second, .val (.long s2), .second, .val (.long s3), .second, .val (.long s4), .second, .val (.long m2), .second] [(.long m2), (.long (s3 &&& (4503599627370495 : Int64))), (.long (q4 &&& m2)), (.int (3 : Int32)), (.ref r0)])) rfl (hb hby d6_144) _ ?_
    show Steps p.tables e below (T3.setTop (mkF m 147 #[.val (.ref r0), .val (.long q1), .second, .val (.long q2), .second, .val (.long q3), .second, .val (.long q4), .second, .val (.long q5), .second, .val (.long s0), .second, .val (.long s1), .second, .val (.long s2), .second, .val (.long s3), .second, .val (.long s4), .second, .val (.long m2), .second] [(.long (-1 : Int64)), (.long m2), (.long (s3 &&& (4503599627370495 : Int64))), (.long (q4 &&& m2)), (.int (3 : Int32)), (.ref r0)])) _
    refine XS.lxor X3.here hx rfl (hb hby d6_147) rfl ?_
    show Steps p.tables e below (T3.setTop (mkF m 148 #[.val (.ref r0), .val (.long q1), .second, .val (.long q2), .second, .val (.long q3), .second, .val (.long q4), .second, .val (.long q5), .second, .val (.long s0), .second, .val (.long s1), .second, .val (.long s2), .second, .val (.long s3), .second, .val (.long s4), .second, .val (.long m2), .second] [(.long (m2 ^^^ (-1 : Int64))), (.long (s3 &&& (4503599627370495 : Int64))), (.long (q4 &&& m2)), (.int (3 : Int32)), (.ref r0)])) _
    refine XS.land X3.here hx rfl (hb hby d6_148) rfl ?_
    show Steps p.tables e below (T3.setTop (mkF m 149 #[.val (.ref r0), .val (.long q1), .second, .val (.long q2), .second, .val (.long q3), .second, .val (.long q4), .second, .val (.long q5), .second, .val (.long s0), .second, .val (.long s1), .second, .val (.long s2), .second, .val (.long s3), .second, .val (.long s4), .second, .val (.long m2), .second] [(.long ((s3 &&& (4503599627370495 : Int64)) &&& (m2 ^^^ (-1 : Int64)))), (.long (q4 &&& m2)), (.int (3 : Int32)), (.ref r0)])) _
    refine XS.lor X3.here hx rfl (hb hby d6_149) rfl ?_
    show Steps p.tables e below (T3.setTop (mkF m 150 #[.val (.ref r0), .val (.long q1), .second, .val (.long q2), .second, .val (.long q3), .second, .val (.long q4), .second, .val (.long q5), .second, .val (.long s0), .second, .val (.long s1), .second, .val (.long s2), .second, .val (.long s3), .second, .val (.long s4), .second, .val (.long m2), .second] [(.long ((q4 &&& m2) ||| ((s3 &&& (4503599627370495 : Int64)) &&& (m2 ^^^ (-1 : Int64))))), (.int (3 : Int32)), (.ref r0)])) _
    exact k
  obtain ⟨T4, h4, L4, X4, N4, e4, W4, Y4, st4⟩ := own_stJ X3 hx hZ e3 V_r0_3 (j := (3 : Int32)) (by decide) 3 rfl (Nat.le_of_ble_eq_true rfl) N3 ga_r0 (g := (mkF m 150 #[.val (.ref r0), .val (.long q1), .second, .val (.long q2), .second, .val (.long q3), .second, .val (.long q4), .second, .val (.long q5), .second, .val (.long s0), .second, .val (.long s1), .second, .val (.long s2), .second, .val (.long s3), .second, .val (.long s4), .second, .val (.long m2), .second] [(.long ((q4 &&& m2) ||| ((s3 &&& (4503599627370495 : Int64)) &&& (m2 ^^^ (-1 : Int64))))), (.int (3 : Int32)), (.ref r0)])) rfl rfl (hb hby d6_150)
  have K4 := K3.wr W4 (Or.inl (List.mem_of_getElem? (i := 0) rfl))
  have V_r0_4 : Arv Z h4 r0 k0 .long (5 : Int32) [(.long ((q1 &&& m2) ||| ((s0 &&& (4503599627370495 : Int64)) &&& (m2 ^^^ (-1 : Int64))))), (.long ((q2 &&& m2) ||| ((s1 &&& (4503599627370495 : Int64)) &&& (m2 ^^^ (-1 : Int64))))), (.long ((q3 &&& m2) ||| ((s2 &&& (4503599627370495 : Int64)) &&& (m2 ^^^ (-1 : Int64))))), (.long ((q4 &&& m2) ||| ((s3 &&& (4503599627370495 : Int64)) &&& (m2 ^^^ (-1 : Int64))))), (.long O4)] (.long (0 : Int64)) := Y4
  have sz_4 := Nat.le_trans sz_3 (Nat.le_of_eq (Wr.size W4).symm)
  refine own_go (T' := T4) (g' := (mkF m 151 #[.val (.ref r0), .val (.long q1), .second, .val (.long q2), .second, .val (.long q3), .second, .val (.long q4), .second, .val (.long q5), .second, .val (.long s0), .second, .val (.long s1), .second, .val (.long s2), .second, .val (.long s3), .second, .val (.long s4), .second, .val (.long m2), .second] [])) st4 ?_
  refine own_go (T' := T4) (g' := (mkF m 168 #[.val (.ref r0), .val (.long q1), .second, .val (.long q2), .second, .val (.long q3), .second, .val (.long q4), .second, .val (.long q5), .second, .val (.long s0), .second, .val (.long s1), .second, .val (.long s2), .second, .val (.long s3), .second, .val (.long s4), .second, .val (.long m2), .second] [(.long ((q5 &&& m2) ||| (s4 &&& (m2 ^^^ (-1 : Int64))))), (.int (4 : Int32)), (.ref r0)])) (fun t k => ?_) ?_
  · show Steps p.tables e below (T4.setTop (mkF m 151 #[.val (.ref r0), .val (.long q1), .second, .val (.long q2), .second, .val (.long q3), .second, .val (.long q4), .second, .val (.long q5), .second, .val (.long s0), .second, .val (.long s1), .second, .val (.long s2), .second, .val (.long s3), .second, .val (.long s4), .second, .val (.long m2), .second] [])) t
    refine XS.aloadN X4.here hx rfl (hb hby d6_151) rfl rfl ?_
    show Steps p.tables e below (T4.setTop (mkF m 152 #[.val (.ref r0), .val (.long q1), .second, .val (.long q2), .second, .val (.long q3), .second, .val (.long q4), .second, .val (.long q5), .second, .val (.long s0), .second, .val (.long s1), .second, .val (.long s2), .second, .val (.long s3), .second, .val (.long s4), .second, .val (.long m2), .second] [(.ref r0)])) _
    refine XS.iconst X4.here hx rfl (hb hby d6_152) ?_
    show Steps p.tables e below (T4.setTop (mkF m 153 #[.val (.ref r0), .val (.long q1), .second, .val (.long q2), .second, .val (.long q3), .second, .val (.long q4), .second, .val (.long q5), .second, .val (.long s0), .second, .val (.long s1), .second, .val (.long s2), .second, .val (.long s3), .second, .val (.long s4), .second, .val (.long m2), .second] [(.int (4 : Int32)), (.ref r0)])) _
    refine XS.lload X4.here hx rfl (hb hby d6_153) rfl ?_
    show Steps p.tables e below (T4.setTop (mkF m 155 #[.val (.ref r0), .val (.long q1), .second, .val (.long q2), .second, .val (.long q3), .second, .val (.long q4), .second, .val (.long q5), .second, .val (.long s0), .second, .val (.long s1), .second, .val (.long s2), .second, .val (.long s3), .second, .val (.long s4), .second, .val (.long m2), .second] [(.long q5), (.int (4 : Int32)), (.ref r0)])) _
    refine XS.lload X4.here hx rfl (hb hby d6_155) rfl ?_
    show Steps p.tables e below (T4.setTop (mkF m 157 #[.val (.ref r0), .val (.long q1), .second, .val (.long q2), .second, .val (.long q3), .second, .val (.long q4), .second, .val (.long q5), .second, .val (.long s0), .second, .val (.long s1), .second, .val (.long s2), .second, .val (.long s3), .second, .val (.long s4), .second, .val (.long m2), .second] [(.long m2), (.long q5), (.int (4 : Int32)), (.ref r0)])) _
    refine XS.land X4.here hx rfl (hb hby d6_157) rfl ?_
    show Steps p.tables e below (T4.setTop (mkF m 158 #[.val (.ref r0), .val (.long q1), .second, .val (.long q2), .second, .val (.long q3), .second, .val (.long q4), .second, .val (.long q5), .second, .val (.long s0), .second, .val (.long s1), .second, .val (.long s2), .second, .val (.long s3), .second, .val (.long s4), .second, .val (.long m2), .second] [(.long (q5 &&& m2)), (.int (4 : Int32)), (.ref r0)])) _
    refine XS.lload X4.here hx rfl (hb hby d6_158) rfl ?_
    show Steps p.tables e below (T4.setTop (mkF m 160 #[.val (.ref r0), .val (.long q1), .second, .val (.long q2), .second, .val (.long q3), .second, .val (.long q4), .second, .val (.long q5), .second, .val (.long s0), .second, .val (.long s1), .second, .val (.long s2), .second, .val (.long s3), .second, .val (.long s4), .second, .val (.long m2), .second] [(.long s4), (.long (q5 &&& m2)), (.int (4 : Int32)), (.ref r0)])) _
    refine XS.lload X4.here hx rfl (hb hby d6_160) rfl ?_
    show Steps p.tables e below (T4.setTop (mkF m 162 #[.val (.ref r0), .val (.long q1), .second, .val (.long q2), .second, .val (.long q3), .second, .val (.long q4), .second, .val (.long q5), .second, .val (.long s0), .second, .val (.long s1), .second, .val (.long s2), .second, .val (.long s3), .second, .val (.long s4), .second, .val (.long m2), .second] [(.long m2), (.long s4), (.long (q5 &&& m2)), (.int (4 : Int32)), (.ref r0)])) _
    refine X4.ldc2Long hx hown (mvT hZ (hw _ (List.mem_of_getElem? (i := 31) rfl))) (g := (mkF m 162 #[.val (.ref r0), .val (.long q1), .second, .val (.long q2), .second, .val (.long q3), .second, .val (.long q4), .second, .val (.long q5), .second, .val (.long s0), .second, .val (.long s1), .second, .val (.long s2), .second, .val (.long s3), .second, .val (.long s4), .second, .val (.long m2), .second] [(.long m2), (.long s4), (.long (q5 &&& m2)), (.int (4 : Int32)), (.ref r0)])) rfl (hb hby d6_162) _ ?_
    show Steps p.tables e below (T4.setTop (mkF m 165 #[.val (.ref r0), .val (.long q1), .second, .val (.long q2), .second, .val (.long q3), .second, .val (.long q4), .second, .val (.long q5), .second, .val (.long s0), .second, .val (.long s1), .second, .val (.long s2), .second, .val (.long s3), .second, .val (.long s4), .second, .val (.long m2), .second] [(.long (-1 : Int64)), (.long m2), (.long s4), (.long (q5 &&& m2)), (.int (4 : Int32)), (.ref r0)])) _
    refine XS.lxor X4.here hx rfl (hb hby d6_165) rfl ?_
    show Steps p.tables e below (T4.setTop (mkF m 166 #[.val (.ref r0), .val (.long q1), .second, .val (.long q2), .second, .val (.long q3), .second, .val (.long q4), .second, .val (.long q5), .second, .val (.long s0), .second, .val (.long s1), .second, .val (.long s2), .second, .val (.long s3), .second, .val (.long s4), .second, .val (.long m2), .second] [(.long (m2 ^^^ (-1 : Int64))), (.long s4), (.long (q5 &&& m2)), (.int (4 : Int32)), (.ref r0)])) _
    refine XS.land X4.here hx rfl (hb hby d6_166) rfl ?_
    show Steps p.tables e below (T4.setTop (mkF m 167 #[.val (.ref r0), .val (.long q1), .second, .val (.long q2), .second, .val (.long q3), .second, .val (.long q4), .second, .val (.long q5), .second, .val (.long s0), .second, .val (.long s1), .second, .val (.long s2), .second, .val (.long s3), .second, .val (.long s4), .second, .val (.long m2), .second] [(.long (s4 &&& (m2 ^^^ (-1 : Int64)))), (.long (q5 &&& m2)), (.int (4 : Int32)), (.ref r0)])) _
    refine XS.lor X4.here hx rfl (hb hby d6_167) rfl ?_
    show Steps p.tables e below (T4.setTop (mkF m 168 #[.val (.ref r0), .val (.long q1), .second, .val (.long q2), .second, .val (.long q3), .second, .val (.long q4), .second, .val (.long q5), .second, .val (.long s0), .second, .val (.long s1), .second, .val (.long s2), .second, .val (.long s3), .second, .val (.long s4), .second, .val (.long m2), .second] [(.long ((q5 &&& m2) ||| (s4 &&& (m2 ^^^ (-1 : Int64))))), (.int (4 : Int32)), (.ref r0)])) _
    exact k
  obtain ⟨T5, h5, L5, X5, N5, e5, W5, Y5, st5⟩ := own_stJ X4 hx hZ e4 V_r0_4 (j := (4 : Int32)) (by decide) 4 rfl (Nat.le_of_ble_eq_true rfl) N4 ga_r0 (g := (mkF m 168 #[.val (.ref r0), .val (.long q1), .second, .val (.long q2), .second, .val (.long q3), .second, .val (.long q4), .second, .val (.long q5), .second, .val (.long s0), .second, .val (.long s1), .second, .val (.long s2), .second, .val (.long s3), .second, .val (.long s4), .second, .val (.long m2), .second] [(.long ((q5 &&& m2) ||| (s4 &&& (m2 ^^^ (-1 : Int64))))), (.int (4 : Int32)), (.ref r0)])) rfl rfl (hb hby d6_168)
  have K5 := K4.wr W5 (Or.inl (List.mem_of_getElem? (i := 0) rfl))
  have V_r0_5 : Arv Z h5 r0 k0 .long (5 : Int32) [(.long ((q1 &&& m2) ||| ((s0 &&& (4503599627370495 : Int64)) &&& (m2 ^^^ (-1 : Int64))))), (.long ((q2 &&& m2) ||| ((s1 &&& (4503599627370495 : Int64)) &&& (m2 ^^^ (-1 : Int64))))), (.long ((q3 &&& m2) ||| ((s2 &&& (4503599627370495 : Int64)) &&& (m2 ^^^ (-1 : Int64))))), (.long ((q4 &&& m2) ||| ((s3 &&& (4503599627370495 : Int64)) &&& (m2 ^^^ (-1 : Int64))))), (.long ((q5 &&& m2) ||| (s4 &&& (m2 ^^^ (-1 : Int64)))))] (.long (0 : Int64)) := Y5
  have sz_5 := Nat.le_trans sz_4 (Nat.le_of_eq (Wr.size W5).symm)
  refine own_go (T' := T5) (g' := (mkF m 169 #[.val (.ref r0), .val (.long q1), .second, .val (.long q2), .second, .val (.long q3), .second, .val (.long q4), .second, .val (.long q5), .second, .val (.long s0), .second, .val (.long s1), .second, .val (.long s2), .second, .val (.long s3), .second, .val (.long s4), .second, .val (.long m2), .second] [])) st5 ?_
  exact own_retV X5 hx hlk hret (hb hby d6_169) (by decide) (by decide) N5 (by rw [e5]; exact ⟨rfl, K5, s0, s1, s2, s3, s4, m2, ⟨h_s0, h_s1, h_s2, h_s3, h_s4, h_m2⟩, V_r0_5⟩)
def own_E5 (A0 A1 A2 A3 A4 B0 B1 B2 B3 B4 t0 t1 t2 t3 t4 : Int64) : Prop := t0 = (A0 + B0) ∧ t1 = ((A1 + B1) + (t0 >>> ((52 : Int32) &&& 0x3f).toInt64)) ∧ t2 = ((A2 + B2) + (t1 >>> ((52 : Int32) &&& 0x3f).toInt64)) ∧ t3 = ((A3 + B3) + (t2 >>> ((52 : Int32) &&& 0x3f).toInt64)) ∧ t4 = ((A4 + B4) + (t3 >>> ((52 : Int32) &&& 0x3f).toInt64))
def own_Q5 (Z : State) (r0 : Addr) (k0 : ClassId) (A0 A1 A2 A3 A4 B0 B1 B2 B3 B4 : Int64) (h0 : Heap) : Option Value → Heap → Prop := fun v h => v = none ∧ Keep h0 h [r0] ∧ ∃ t0 t1 t2 t3 t4 s0 s1 s2 s3 s4 m2 : Int64, own_E5 A0 A1 A2 A3 A4 B0 B1 B2 B3 B4 t0 t1 t2 t3 t4 ∧ own_E6 (t0 &&& (4503599627370495 : Int64)) (t1 &&& (4503599627370495 : Int64)) (t2 &&& (4503599627370495 : Int64)) (t3 &&& (4503599627370495 : Int64)) t4 s0 s1 s2 s3 s4 m2 ∧ Arv Z h r0 k0 .long (5 : Int32) [(.long (((t0 &&& (4503599627370495 : Int64)) &&& m2) ||| ((s0 &&& (4503599627370495 : Int64)) &&& (m2 ^^^ (-1 : Int64))))), (.long (((t1 &&& (4503599627370495 : Int64)) &&& m2) ||| ((s1 &&& (4503599627370495 : Int64)) &&& (m2 ^^^ (-1 : Int64))))), (.long (((t2 &&& (4503599627370495 : Int64)) &&& m2) ||| ((s2 &&& (4503599627370495 : Int64)) &&& (m2 ^^^ (-1 : Int64))))), (.long (((t3 &&& (4503599627370495 : Int64)) &&& m2) ||| ((s3 &&& (4503599627370495 : Int64)) &&& (m2 ^^^ (-1 : Int64))))), (.long ((t4 &&& m2) ||| (s4 &&& (m2 ^^^ (-1 : Int64)))))] (.long (0 : Int64))
abbrev own_r5 : Room := { frames := 1, cells := 0, slots := 0, locals := 34 }
theorem d5_0 : decode prog_11_method_10_code 0 = .ok (.aload_n 1, 1) := by decide +kernel
theorem d5_1 : decode prog_11_method_10_code 1 = .ok (.iconst 0, 1) := by decide +kernel
theorem d5_2 : decode prog_11_method_10_code 2 = .ok (.laload, 1) := by decide +kernel
theorem d5_3 : decode prog_11_method_10_code 3 = .ok (.aload_n 2, 1) := by decide +kernel
theorem d5_4 : decode prog_11_method_10_code 4 = .ok (.iconst 0, 1) := by decide +kernel
theorem d5_5 : decode prog_11_method_10_code 5 = .ok (.laload, 1) := by decide +kernel
theorem d5_6 : decode prog_11_method_10_code 6 = .ok (.ladd, 1) := by decide +kernel
theorem d5_7 : decode prog_11_method_10_code 7 = .ok (.lstore_n 3, 1) := by decide +kernel
theorem d5_8 : decode prog_11_method_10_code 8 = .ok (.aload_n 1, 1) := by decide +kernel
theorem d5_9 : decode prog_11_method_10_code 9 = .ok (.iconst 1, 1) := by decide +kernel
theorem d5_10 : decode prog_11_method_10_code 10 = .ok (.laload, 1) := by decide +kernel
theorem d5_11 : decode prog_11_method_10_code 11 = .ok (.aload_n 2, 1) := by decide +kernel
theorem d5_12 : decode prog_11_method_10_code 12 = .ok (.iconst 1, 1) := by decide +kernel
theorem d5_13 : decode prog_11_method_10_code 13 = .ok (.laload, 1) := by decide +kernel
theorem d5_14 : decode prog_11_method_10_code 14 = .ok (.ladd, 1) := by decide +kernel
theorem d5_15 : decode prog_11_method_10_code 15 = .ok (.lload_n 3, 1) := by decide +kernel
theorem d5_16 : decode prog_11_method_10_code 16 = .ok (.bipush 52, 2) := by decide +kernel
theorem d5_18 : decode prog_11_method_10_code 18 = .ok (.lshr, 1) := by decide +kernel
theorem d5_19 : decode prog_11_method_10_code 19 = .ok (.ladd, 1) := by decide +kernel
theorem d5_20 : decode prog_11_method_10_code 20 = .ok (.lstore 5, 2) := by decide +kernel
theorem d5_22 : decode prog_11_method_10_code 22 = .ok (.aload_n 1, 1) := by decide +kernel
theorem d5_23 : decode prog_11_method_10_code 23 = .ok (.iconst 2, 1) := by decide +kernel
theorem d5_24 : decode prog_11_method_10_code 24 = .ok (.laload, 1) := by decide +kernel
theorem d5_25 : decode prog_11_method_10_code 25 = .ok (.aload_n 2, 1) := by decide +kernel
theorem d5_26 : decode prog_11_method_10_code 26 = .ok (.iconst 2, 1) := by decide +kernel
theorem d5_27 : decode prog_11_method_10_code 27 = .ok (.laload, 1) := by decide +kernel
theorem d5_28 : decode prog_11_method_10_code 28 = .ok (.ladd, 1) := by decide +kernel
theorem d5_29 : decode prog_11_method_10_code 29 = .ok (.lload 5, 2) := by decide +kernel
theorem d5_31 : decode prog_11_method_10_code 31 = .ok (.bipush 52, 2) := by decide +kernel
theorem d5_33 : decode prog_11_method_10_code 33 = .ok (.lshr, 1) := by decide +kernel
theorem d5_34 : decode prog_11_method_10_code 34 = .ok (.ladd, 1) := by decide +kernel
theorem d5_35 : decode prog_11_method_10_code 35 = .ok (.lstore 7, 2) := by decide +kernel
theorem d5_37 : decode prog_11_method_10_code 37 = .ok (.aload_n 1, 1) := by decide +kernel
theorem d5_38 : decode prog_11_method_10_code 38 = .ok (.iconst 3, 1) := by decide +kernel
theorem d5_39 : decode prog_11_method_10_code 39 = .ok (.laload, 1) := by decide +kernel
theorem d5_40 : decode prog_11_method_10_code 40 = .ok (.aload_n 2, 1) := by decide +kernel
theorem d5_41 : decode prog_11_method_10_code 41 = .ok (.iconst 3, 1) := by decide +kernel
theorem d5_42 : decode prog_11_method_10_code 42 = .ok (.laload, 1) := by decide +kernel
theorem d5_43 : decode prog_11_method_10_code 43 = .ok (.ladd, 1) := by decide +kernel
theorem d5_44 : decode prog_11_method_10_code 44 = .ok (.lload 7, 2) := by decide +kernel
theorem d5_46 : decode prog_11_method_10_code 46 = .ok (.bipush 52, 2) := by decide +kernel
theorem d5_48 : decode prog_11_method_10_code 48 = .ok (.lshr, 1) := by decide +kernel
theorem d5_49 : decode prog_11_method_10_code 49 = .ok (.ladd, 1) := by decide +kernel
theorem d5_50 : decode prog_11_method_10_code 50 = .ok (.lstore 9, 2) := by decide +kernel
theorem d5_52 : decode prog_11_method_10_code 52 = .ok (.aload_n 1, 1) := by decide +kernel
theorem d5_53 : decode prog_11_method_10_code 53 = .ok (.iconst 4, 1) := by decide +kernel
theorem d5_54 : decode prog_11_method_10_code 54 = .ok (.laload, 1) := by decide +kernel
theorem d5_55 : decode prog_11_method_10_code 55 = .ok (.aload_n 2, 1) := by decide +kernel
theorem d5_56 : decode prog_11_method_10_code 56 = .ok (.iconst 4, 1) := by decide +kernel
theorem d5_57 : decode prog_11_method_10_code 57 = .ok (.laload, 1) := by decide +kernel
theorem d5_58 : decode prog_11_method_10_code 58 = .ok (.ladd, 1) := by decide +kernel
theorem d5_59 : decode prog_11_method_10_code 59 = .ok (.lload 9, 2) := by decide +kernel
theorem d5_61 : decode prog_11_method_10_code 61 = .ok (.bipush 52, 2) := by decide +kernel
theorem d5_63 : decode prog_11_method_10_code 63 = .ok (.lshr, 1) := by decide +kernel
theorem d5_64 : decode prog_11_method_10_code 64 = .ok (.ladd, 1) := by decide +kernel
theorem d5_65 : decode prog_11_method_10_code 65 = .ok (.lstore 11, 2) := by decide +kernel
theorem d5_67 : decode prog_11_method_10_code 67 = .ok (.aload_n 0, 1) := by decide +kernel
theorem d5_68 : decode prog_11_method_10_code 68 = .ok (.lload_n 3, 1) := by decide +kernel
theorem d5_69 : decode prog_11_method_10_code 69 = .ok (.ldc2_w 54, 3) := by decide +kernel
theorem d5_72 : decode prog_11_method_10_code 72 = .ok (.land, 1) := by decide +kernel
theorem d5_73 : decode prog_11_method_10_code 73 = .ok (.lload 5, 2) := by decide +kernel
theorem d5_75 : decode prog_11_method_10_code 75 = .ok (.ldc2_w 54, 3) := by decide +kernel
theorem d5_78 : decode prog_11_method_10_code 78 = .ok (.land, 1) := by decide +kernel
theorem d5_79 : decode prog_11_method_10_code 79 = .ok (.lload 7, 2) := by decide +kernel
theorem d5_81 : decode prog_11_method_10_code 81 = .ok (.ldc2_w 54, 3) := by decide +kernel
theorem d5_84 : decode prog_11_method_10_code 84 = .ok (.land, 1) := by decide +kernel
theorem d5_85 : decode prog_11_method_10_code 85 = .ok (.lload 9, 2) := by decide +kernel
theorem d5_87 : decode prog_11_method_10_code 87 = .ok (.ldc2_w 54, 3) := by decide +kernel
theorem d5_90 : decode prog_11_method_10_code 90 = .ok (.land, 1) := by decide +kernel
theorem d5_91 : decode prog_11_method_10_code 91 = .ok (.lload 11, 2) := by decide +kernel
theorem d5_93 : decode prog_11_method_10_code 93 = .ok (.invokestatic 62, 3) := by decide +kernel
theorem pd_0 : parseMethodDescriptor "([JJJJJJ)V" = some ⟨[(.array .long), .long, .long, .long, .long, .long], none⟩ := by decide +kernel
theorem d5_96 : decode prog_11_method_10_code 96 = .ok (.return_, 1) := by decide +kernel
theorem ef_5 (m : MethodId) (r0 : Addr) (r1 : Addr) (r2 : Addr) : entryFrame m #[(.ref r0), (.ref r1), (.ref r2)] 13 = mkF m 0 #[.val (.ref r0), .val (.ref r1), .val (.ref r2), .unset, .unset, .unset, .unset, .unset, .unset, .unset, .unset, .unset, .unset] [] := by first | (simp [entryFrame, mkF, argsToLocals, Value.category]; done) | rfl
set_option maxRecDepth 65536 in
set_option maxHeartbeats 40000000 in
theorem rm5 (l : Launch) (Z : State) (a0 : Array Value) (hw : ∀ d ∈ tables_1, d.before a0 Z = true) (r0 r1 r2 : Addr) (k0 k1 k2 : ClassId) (O0 O1 O2 O3 O4 A0 A1 A2 A3 A4 B0 B1 B2 B3 B4 : Int64) (h0 : Heap) (n0 : Nat) (Z0 : n0 ≤ h0.size) (ga_r0 : n0 ≤ r0) (V0 : Arv Z h0 r0 k0 .long (5 : Int32) [(.long O0), (.long O1), (.long O2), (.long O3), (.long O4)] (.long (0 : Int64))) (V1 : Arv Z h0 r1 k1 .long (5 : Int32) [(.long A0), (.long A1), (.long A2), (.long A3), (.long A4)] (.long (0 : Int64))) (V2 : Arv Z h0 r2 k2 .long (5 : Int32) [(.long B0), (.long B1), (.long B2), (.long B3), (.long B4)] (.long (0 : Int64))) : own_Con [] l Z (⟨"com/example/linkwell/linkwell/cards/P256Field", "add", "([J[J[J)V"⟩ : MethodName) prog_11_method_10_code 13 none own_r5 n0 #[(.ref r0), (.ref r1), (.ref r2)] h0 (own_Q5 Z r0 k0 A0 A1 A2 A3 A4 B0 B1 B2 B3 B4 h0) := by
  refine own_body (plainFor_of_name (by first | (simp [plainName, overriddenIn]; done) | decide +kernel)) (fun m => mkF m 0 #[.val (.ref r0), .val (.ref r1), .val (.ref r2), .unset, .unset, .unset, .unset, .unset, .unset, .unset, .unset, .unset, .unset] []) (fun m => ef_5 m r0 r1 r2) ?_
  intro p e s m below meth c s₁ hx hby hml hown hnm hZ hret hlk X0 e0 N0
  refine own_go (T' := s₁) (g' := (mkF m 8 #[.val (.ref r0), .val (.ref r1), .val (.ref r2), .val (.long (A0 + B0)), .second, .unset, .unset, .unset, .unset, .unset, .unset, .unset, .unset] [])) (fun t k => ?_) ?_
  · show Steps p.tables e below (s₁.setTop (mkF m 0 #[.val (.ref r0), .val (.ref r1), .val (.ref r2), .unset, .unset, .unset, .unset, .unset, .unset, .unset, .unset, .unset, .unset] [])) t
    refine XS.aloadN X0.here hx rfl (hb hby d5_0) rfl rfl ?_
    show Steps p.tables e below (s₁.setTop (mkF m 1 #[.val (.ref r0), .val (.ref r1), .val (.ref r2), .unset, .unset, .unset, .unset, .unset, .unset, .unset, .unset, .unset, .unset] [(.ref r1)])) _
    refine XS.iconst X0.here hx rfl (hb hby d5_1) ?_
    show Steps p.tables e below (s₁.setTop (mkF m 2 #[.val (.ref r0), .val (.ref r1), .val (.ref r2), .unset, .unset, .unset, .unset, .unset, .unset, .unset, .unset, .unset, .unset] [(.int (0 : Int32)), (.ref r1)])) _
    refine own_ldJ X0 hx hZ e0 V1 (j := (0 : Int32)) (by decide) (v := (.long A0)) rfl (g := (mkF m 2 #[.val (.ref r0), .val (.ref r1), .val (.ref r2), .unset, .unset, .unset, .unset, .unset, .unset, .unset, .unset, .unset, .unset] [(.int (0 : Int32)), (.ref r1)])) rfl rfl (hb hby d5_2) _ ?_
    show Steps p.tables e below (s₁.setTop (mkF m 3 #[.val (.ref r0), .val (.ref r1), .val (.ref r2), .unset, .unset, .unset, .unset, .unset, .unset, .unset, .unset, .unset, .unset] [(.long A0)])) _
    refine XS.aloadN X0.here hx rfl (hb hby d5_3) rfl rfl ?_
    show Steps p.tables e below (s₁.setTop (mkF m 4 #[.val (.ref r0), .val (.ref r1), .val (.ref r2), .unset, .unset, .unset, .unset, .unset, .unset, .unset, .unset, .unset, .unset] [(.ref r2), (.long A0)])) _
    refine XS.iconst X0.here hx rfl (hb hby d5_4) ?_
    show Steps p.tables e below (s₁.setTop (mkF m 5 #[.val (.ref r0), .val (.ref r1), .val (.ref r2), .unset, .unset, .unset, .unset, .unset, .unset, .unset, .unset, .unset, .unset] [(.int (0 : Int32)), (.ref r2), (.long A0)])) _
    refine own_ldJ X0 hx hZ e0 V2 (j := (0 : Int32)) (by decide) (v := (.long B0)) rfl (g := (mkF m 5 #[.val (.ref r0), .val (.ref r1), .val (.ref r2), .unset, .unset, .unset, .unset, .unset, .unset, .unset, .unset, .unset, .unset] [(.int (0 : Int32)), (.ref r2), (.long A0)])) rfl rfl (hb hby d5_5) _ ?_
    show Steps p.tables e below (s₁.setTop (mkF m 6 #[.val (.ref r0), .val (.ref r1), .val (.ref r2), .unset, .unset, .unset, .unset, .unset, .unset, .unset, .unset, .unset, .unset] [(.long B0), (.long A0)])) _
    refine XS.ladd X0.here hx rfl (hb hby d5_6) rfl ?_
    show Steps p.tables e below (s₁.setTop (mkF m 7 #[.val (.ref r0), .val (.ref r1), .val (.ref r2), .unset, .unset, .unset, .unset, .unset, .unset, .unset, .unset, .unset, .unset] [(.long (A0 + B0))])) _
    refine XS.lstoreN X0.here hx rfl (hb hby d5_7) rfl (l' := #[.val (.ref r0), .val (.ref r1), .val (.ref r2), .val (.long (A0 + B0)), .second, .unset, .unset, .unset, .unset, .unset, .unset, .unset, .unset]) rfl ?_
    show Steps p.tables e below (s₁.setTop (mkF m 8 #[.val (.ref r0), .val (.ref r1), .val (.ref r2), .val (.long (A0 + B0)), .second, .unset, .unset, .unset, .unset, .unset, .unset, .unset, .unset] [])) _
    exact k
  obtain ⟨t0, h_t0⟩ : ∃ z : Int64, z = (A0 + B0) := ⟨_, rfl⟩
  rw [← h_t0]
  refine own_go (T' := s₁) (g' := (mkF m 22 #[.val (.ref r0), .val (.ref r1), .val (.ref r2), .val (.long t0), .second, .val (.long ((A1 + B1) + (t0 >>> ((52 : Int32) &&& 0x3f).toInt64))), .second, .unset, .unset, .unset, .unset, .unset, .unset] [])) (fun t k => ?_) ?_
  · show Steps p.tables e below (s₁.setTop (mkF m 8 #[.val (.ref r0), .val (.ref r1), .val (.ref r2), .val (.long t0), .second, .unset, .unset, .unset, .unset, .unset, .unset, .unset, .unset] [])) t
    refine XS.aloadN X0.here hx rfl (hb hby d5_8) rfl rfl ?_
    show Steps p.tables e below (s₁.setTop (mkF m 9 #[.val (.ref r0), .val (.ref r1), .val (.ref r2), .val (.long t0), .second, .unset, .unset, .unset, .unset, .unset, .unset, .unset, .unset] [(.ref r1)])) _
    refine XS.iconst X0.here hx rfl (hb hby d5_9) ?_
    show Steps p.tables e below (s₁.setTop (mkF m 10 #[.val (.ref r0), .val (.ref r1), .val (.ref r2), .val (.long t0), .second, .unset, .unset, .unset, .unset, .unset, .unset, .unset, .unset] [(.int (1 : Int32)), (.ref r1)])) _
    refine own_ldJ X0 hx hZ e0 V1 (j := (1 : Int32)) (by decide) (v := (.long A1)) rfl (g := (mkF m 10 #[.val (.ref r0), .val (.ref r1), .val (.ref r2), .val (.long t0), .second, .unset, .unset, .unset, .unset, .unset, .unset, .unset, .unset] [(.int (1 : Int32)), (.ref r1)])) rfl rfl (hb hby d5_10) _ ?_
    show Steps p.tables e below (s₁.setTop (mkF m 11 #[.val (.ref r0), .val (.ref r1), .val (.ref r2), .val (.long t0), .second, .unset, .unset, .unset, .unset, .unset, .unset, .unset, .unset] [(.long A1)])) _
    refine XS.aloadN X0.here hx rfl (hb hby d5_11) rfl rfl ?_
    show Steps p.tables e below (s₁.setTop (mkF m 12 #[.val (.ref r0), .val (.ref r1), .val (.ref r2), .val (.long t0), .second, .unset, .unset, .unset, .unset, .unset, .unset, .unset, .unset] [(.ref r2), (.long A1)])) _
    refine XS.iconst X0.here hx rfl (hb hby d5_12) ?_
    show Steps p.tables e below (s₁.setTop (mkF m 13 #[.val (.ref r0), .val (.ref r1), .val (.ref r2), .val (.long t0), .second, .unset, .unset, .unset, .unset, .unset, .unset, .unset, .unset] [(.int (1 : Int32)), (.ref r2), (.long A1)])) _
    refine own_ldJ X0 hx hZ e0 V2 (j := (1 : Int32)) (by decide) (v := (.long B1)) rfl (g := (mkF m 13 #[.val (.ref r0), .val (.ref r1), .val (.ref r2), .val (.long t0), .second, .unset, .unset, .unset, .unset, .unset, .unset, .unset, .unset] [(.int (1 : Int32)), (.ref r2), (.long A1)])) rfl rfl (hb hby d5_13) _ ?_
    show Steps p.tables e below (s₁.setTop (mkF m 14 #[.val (.ref r0), .val (.ref r1), .val (.ref r2), .val (.long t0), .second, .unset, .unset, .unset, .unset, .unset, .unset, .unset, .unset] [(.long B1), (.long A1)])) _
    refine XS.ladd X0.here hx rfl (hb hby d5_14) rfl ?_
    show Steps p.tables e below (s₁.setTop (mkF m 15 #[.val (.ref r0), .val (.ref r1), .val (.ref r2), .val (.long t0), .second, .unset, .unset, .unset, .unset, .unset, .unset, .unset, .unset] [(.long (A1 + B1))])) _
    refine XS.lloadN X0.here hx rfl (hb hby d5_15) rfl ?_
    show Steps p.tables e below (s₁.setTop (mkF m 16 #[.val (.ref r0), .val (.ref r1), .val (.ref r2), .val (.long t0), .second, .unset, .unset, .unset, .unset, .unset, .unset, .unset, .unset] [(.long t0), (.long (A1 + B1))])) _
    refine XS.bipush X0.here hx rfl (hb hby d5_16) ?_
    show Steps p.tables e below (s₁.setTop (mkF m 18 #[.val (.ref r0), .val (.ref r1), .val (.ref r2), .val (.long t0), .second, .unset, .unset, .unset, .unset, .unset, .unset, .unset, .unset] [(.int (52 : Int32)), (.long t0), (.long (A1 + B1))])) _
    refine XS.lshr X0.here hx rfl (hb hby d5_18) rfl ?_
    show Steps p.tables e below (s₁.setTop (mkF m 19 #[.val (.ref r0), .val (.ref r1), .val (.ref r2), .val (.long t0), .second, .unset, .unset, .unset, .unset, .unset, .unset, .unset, .unset] [(.long (t0 >>> ((52 : Int32) &&& 0x3f).toInt64)), (.long (A1 + B1))])) _
    refine XS.ladd X0.here hx rfl (hb hby d5_19) rfl ?_
    show Steps p.tables e below (s₁.setTop (mkF m 20 #[.val (.ref r0), .val (.ref r1), .val (.ref r2), .val (.long t0), .second, .unset, .unset, .unset, .unset, .unset, .unset, .unset, .unset] [(.long ((A1 + B1) + (t0 >>> ((52 : Int32) &&& 0x3f).toInt64)))])) _
    refine XS.lstore X0.here hx rfl (hb hby d5_20) rfl (l' := #[.val (.ref r0), .val (.ref r1), .val (.ref r2), .val (.long t0), .second, .val (.long ((A1 + B1) + (t0 >>> ((52 : Int32) &&& 0x3f).toInt64))), .second, .unset, .unset, .unset, .unset, .unset, .unset]) rfl ?_
    show Steps p.tables e below (s₁.setTop (mkF m 22 #[.val (.ref r0), .val (.ref r1), .val (.ref r2), .val (.long t0), .second, .val (.long ((A1 + B1) + (t0 >>> ((52 : Int32) &&& 0x3f).toInt64))), .second, .unset, .unset, .unset, .unset, .unset, .unset] [])) _
    exact k
  obtain ⟨t1, h_t1⟩ : ∃ z : Int64, z = ((A1 + B1) + (t0 >>> ((52 : Int32) &&& 0x3f).toInt64)) := ⟨_, rfl⟩
  rw [← h_t1]
  refine own_go (T' := s₁) (g' := (mkF m 37 #[.val (.ref r0), .val (.ref r1), .val (.ref r2), .val (.long t0), .second, .val (.long t1), .second, .val (.long ((A2 + B2) + (t1 >>> ((52 : Int32) &&& 0x3f).toInt64))), .second, .unset, .unset, .unset, .unset] [])) (fun t k => ?_) ?_
  · show Steps p.tables e below (s₁.setTop (mkF m 22 #[.val (.ref r0), .val (.ref r1), .val (.ref r2), .val (.long t0), .second, .val (.long t1), .second, .unset, .unset, .unset, .unset, .unset, .unset] [])) t
    refine XS.aloadN X0.here hx rfl (hb hby d5_22) rfl rfl ?_
    show Steps p.tables e below (s₁.setTop (mkF m 23 #[.val (.ref r0), .val (.ref r1), .val (.ref r2), .val (.long t0), .second, .val (.long t1), .second, .unset, .unset, .unset, .unset, .unset, .unset] [(.ref r1)])) _
    refine XS.iconst X0.here hx rfl (hb hby d5_23) ?_
    show Steps p.tables e below (s₁.setTop (mkF m 24 #[.val (.ref r0), .val (.ref r1), .val (.ref r2), .val (.long t0), .second, .val (.long t1), .second, .unset, .unset, .unset, .unset, .unset, .unset] [(.int (2 : Int32)), (.ref r1)])) _
    refine own_ldJ X0 hx hZ e0 V1 (j := (2 : Int32)) (by decide) (v := (.long A2)) rfl (g := (mkF m 24 #[.val (.ref r0), .val (.ref r1), .val (.ref r2), .val (.long t0), .second, .val (.long t1), .second, .unset, .unset, .unset, .unset, .unset, .unset] [(.int (2 : Int32)), (.ref r1)])) rfl rfl (hb hby d5_24) _ ?_
    show Steps p.tables e below (s₁.setTop (mkF m 25 #[.val (.ref r0), .val (.ref r1), .val (.ref r2), .val (.long t0), .second, .val (.long t1), .second, .unset, .unset, .unset, .unset, .unset, .unset] [(.long A2)])) _
    refine XS.aloadN X0.here hx rfl (hb hby d5_25) rfl rfl ?_
    show Steps p.tables e below (s₁.setTop (mkF m 26 #[.val (.ref r0), .val (.ref r1), .val (.ref r2), .val (.long t0), .second, .val (.long t1), .second, .unset, .unset, .unset, .unset, .unset, .unset] [(.ref r2), (.long A2)])) _
    refine XS.iconst X0.here hx rfl (hb hby d5_26) ?_
    show Steps p.tables e below (s₁.setTop (mkF m 27 #[.val (.ref r0), .val (.ref r1), .val (.ref r2), .val (.long t0), .second, .val (.long t1), .second, .unset, .unset, .unset, .unset, .unset, .unset] [(.int (2 : Int32)), (.ref r2), (.long A2)])) _
    refine own_ldJ X0 hx hZ e0 V2 (j := (2 : Int32)) (by decide) (v := (.long B2)) rfl (g := (mkF m 27 #[.val (.ref r0), .val (.ref r1), .val (.ref r2), .val (.long t0), .second, .val (.long t1), .second, .unset, .unset, .unset, .unset, .unset, .unset] [(.int (2 : Int32)), (.ref r2), (.long A2)])) rfl rfl (hb hby d5_27) _ ?_
    show Steps p.tables e below (s₁.setTop (mkF m 28 #[.val (.ref r0), .val (.ref r1), .val (.ref r2), .val (.long t0), .second, .val (.long t1), .second, .unset, .unset, .unset, .unset, .unset, .unset] [(.long B2), (.long A2)])) _
    refine XS.ladd X0.here hx rfl (hb hby d5_28) rfl ?_
    show Steps p.tables e below (s₁.setTop (mkF m 29 #[.val (.ref r0), .val (.ref r1), .val (.ref r2), .val (.long t0), .second, .val (.long t1), .second, .unset, .unset, .unset, .unset, .unset, .unset] [(.long (A2 + B2))])) _
    refine XS.lload X0.here hx rfl (hb hby d5_29) rfl ?_
    show Steps p.tables e below (s₁.setTop (mkF m 31 #[.val (.ref r0), .val (.ref r1), .val (.ref r2), .val (.long t0), .second, .val (.long t1), .second, .unset, .unset, .unset, .unset, .unset, .unset] [(.long t1), (.long (A2 + B2))])) _
    refine XS.bipush X0.here hx rfl (hb hby d5_31) ?_
    show Steps p.tables e below (s₁.setTop (mkF m 33 #[.val (.ref r0), .val (.ref r1), .val (.ref r2), .val (.long t0), .second, .val (.long t1), .second, .unset, .unset, .unset, .unset, .unset, .unset] [(.int (52 : Int32)), (.long t1), (.long (A2 + B2))])) _
    refine XS.lshr X0.here hx rfl (hb hby d5_33) rfl ?_
    show Steps p.tables e below (s₁.setTop (mkF m 34 #[.val (.ref r0), .val (.ref r1), .val (.ref r2), .val (.long t0), .second, .val (.long t1), .second, .unset, .unset, .unset, .unset, .unset, .unset] [(.long (t1 >>> ((52 : Int32) &&& 0x3f).toInt64)), (.long (A2 + B2))])) _
    refine XS.ladd X0.here hx rfl (hb hby d5_34) rfl ?_
    show Steps p.tables e below (s₁.setTop (mkF m 35 #[.val (.ref r0), .val (.ref r1), .val (.ref r2), .val (.long t0), .second, .val (.long t1), .second, .unset, .unset, .unset, .unset, .unset, .unset] [(.long ((A2 + B2) + (t1 >>> ((52 : Int32) &&& 0x3f).toInt64)))])) _
    refine XS.lstore X0.here hx rfl (hb hby d5_35) rfl (l' := #[.val (.ref r0), .val (.ref r1), .val (.ref r2), .val (.long t0), .second, .val (.long t1), .second, .val (.long ((A2 + B2) + (t1 >>> ((52 : Int32) &&& 0x3f).toInt64))), .second, .unset, .unset, .unset, .unset]) rfl ?_
    show Steps p.tables e below (s₁.setTop (mkF m 37 #[.val (.ref r0), .val (.ref r1), .val (.ref r2), .val (.long t0), .second, .val (.long t1), .second, .val (.long ((A2 + B2) + (t1 >>> ((52 : Int32) &&& 0x3f).toInt64))), .second, .unset, .unset, .unset, .unset] [])) _
    exact k
  obtain ⟨t2, h_t2⟩ : ∃ z : Int64, z = ((A2 + B2) + (t1 >>> ((52 : Int32) &&& 0x3f).toInt64)) := ⟨_, rfl⟩
  rw [← h_t2]
  refine own_go (T' := s₁) (g' := (mkF m 52 #[.val (.ref r0), .val (.ref r1), .val (.ref r2), .val (.long t0), .second, .val (.long t1), .second, .val (.long t2), .second, .val (.long ((A3 + B3) + (t2 >>> ((52 : Int32) &&& 0x3f).toInt64))), .second, .unset, .unset] [])) (fun t k => ?_) ?_
  · show Steps p.tables e below (s₁.setTop (mkF m 37 #[.val (.ref r0), .val (.ref r1), .val (.ref r2), .val (.long t0), .second, .val (.long t1), .second, .val (.long t2), .second, .unset, .unset, .unset, .unset] [])) t
    refine XS.aloadN X0.here hx rfl (hb hby d5_37) rfl rfl ?_
    show Steps p.tables e below (s₁.setTop (mkF m 38 #[.val (.ref r0), .val (.ref r1), .val (.ref r2), .val (.long t0), .second, .val (.long t1), .second, .val (.long t2), .second, .unset, .unset, .unset, .unset] [(.ref r1)])) _
    refine XS.iconst X0.here hx rfl (hb hby d5_38) ?_
    show Steps p.tables e below (s₁.setTop (mkF m 39 #[.val (.ref r0), .val (.ref r1), .val (.ref r2), .val (.long t0), .second, .val (.long t1), .second, .val (.long t2), .second, .unset, .unset, .unset, .unset] [(.int (3 : Int32)), (.ref r1)])) _
    refine own_ldJ X0 hx hZ e0 V1 (j := (3 : Int32)) (by decide) (v := (.long A3)) rfl (g := (mkF m 39 #[.val (.ref r0), .val (.ref r1), .val (.ref r2), .val (.long t0), .second, .val (.long t1), .second, .val (.long t2), .second, .unset, .unset, .unset, .unset] [(.int (3 : Int32)), (.ref r1)])) rfl rfl (hb hby d5_39) _ ?_
    show Steps p.tables e below (s₁.setTop (mkF m 40 #[.val (.ref r0), .val (.ref r1), .val (.ref r2), .val (.long t0), .second, .val (.long t1), .second, .val (.long t2), .second, .unset, .unset, .unset, .unset] [(.long A3)])) _
    refine XS.aloadN X0.here hx rfl (hb hby d5_40) rfl rfl ?_
    show Steps p.tables e below (s₁.setTop (mkF m 41 #[.val (.ref r0), .val (.ref r1), .val (.ref r2), .val (.long t0), .second, .val (.long t1), .second, .val (.long t2), .second, .unset, .unset, .unset, .unset] [(.ref r2), (.long A3)])) _
    refine XS.iconst X0.here hx rfl (hb hby d5_41) ?_
    show Steps p.tables e below (s₁.setTop (mkF m 42 #[.val (.ref r0), .val (.ref r1), .val (.ref r2), .val (.long t0), .second, .val (.long t1), .second, .val (.long t2), .second, .unset, .unset, .unset, .unset] [(.int (3 : Int32)), (.ref r2), (.long A3)])) _
    refine own_ldJ X0 hx hZ e0 V2 (j := (3 : Int32)) (by decide) (v := (.long B3)) rfl (g := (mkF m 42 #[.val (.ref r0), .val (.ref r1), .val (.ref r2), .val (.long t0), .second, .val (.long t1), .second, .val (.long t2), .second, .unset, .unset, .unset, .unset] [(.int (3 : Int32)), (.ref r2), (.long A3)])) rfl rfl (hb hby d5_42) _ ?_
    show Steps p.tables e below (s₁.setTop (mkF m 43 #[.val (.ref r0), .val (.ref r1), .val (.ref r2), .val (.long t0), .second, .val (.long t1), .second, .val (.long t2), .second, .unset, .unset, .unset, .unset] [(.long B3), (.long A3)])) _
    refine XS.ladd X0.here hx rfl (hb hby d5_43) rfl ?_
    show Steps p.tables e below (s₁.setTop (mkF m 44 #[.val (.ref r0), .val (.ref r1), .val (.ref r2), .val (.long t0), .second, .val (.long t1), .second, .val (.long t2), .second, .unset, .unset, .unset, .unset] [(.long (A3 + B3))])) _
    refine XS.lload X0.here hx rfl (hb hby d5_44) rfl ?_
    show Steps p.tables e below (s₁.setTop (mkF m 46 #[.val (.ref r0), .val (.ref r1), .val (.ref r2), .val (.long t0), .second, .val (.long t1), .second, .val (.long t2), .second, .unset, .unset, .unset, .unset] [(.long t2), (.long (A3 + B3))])) _
    refine XS.bipush X0.here hx rfl (hb hby d5_46) ?_
    show Steps p.tables e below (s₁.setTop (mkF m 48 #[.val (.ref r0), .val (.ref r1), .val (.ref r2), .val (.long t0), .second, .val (.long t1), .second, .val (.long t2), .second, .unset, .unset, .unset, .unset] [(.int (52 : Int32)), (.long t2), (.long (A3 + B3))])) _
    refine XS.lshr X0.here hx rfl (hb hby d5_48) rfl ?_
    show Steps p.tables e below (s₁.setTop (mkF m 49 #[.val (.ref r0), .val (.ref r1), .val (.ref r2), .val (.long t0), .second, .val (.long t1), .second, .val (.long t2), .second, .unset, .unset, .unset, .unset] [(.long (t2 >>> ((52 : Int32) &&& 0x3f).toInt64)), (.long (A3 + B3))])) _
    refine XS.ladd X0.here hx rfl (hb hby d5_49) rfl ?_
    show Steps p.tables e below (s₁.setTop (mkF m 50 #[.val (.ref r0), .val (.ref r1), .val (.ref r2), .val (.long t0), .second, .val (.long t1), .second, .val (.long t2), .second, .unset, .unset, .unset, .unset] [(.long ((A3 + B3) + (t2 >>> ((52 : Int32) &&& 0x3f).toInt64)))])) _
    refine XS.lstore X0.here hx rfl (hb hby d5_50) rfl (l' := #[.val (.ref r0), .val (.ref r1), .val (.ref r2), .val (.long t0), .second, .val (.long t1), .second, .val (.long t2), .second, .val (.long ((A3 + B3) + (t2 >>> ((52 : Int32) &&& 0x3f).toInt64))), .second, .unset, .unset]) rfl ?_
    show Steps p.tables e below (s₁.setTop (mkF m 52 #[.val (.ref r0), .val (.ref r1), .val (.ref r2), .val (.long t0), .second, .val (.long t1), .second, .val (.long t2), .second, .val (.long ((A3 + B3) + (t2 >>> ((52 : Int32) &&& 0x3f).toInt64))), .second, .unset, .unset] [])) _
    exact k
  obtain ⟨t3, h_t3⟩ : ∃ z : Int64, z = ((A3 + B3) + (t2 >>> ((52 : Int32) &&& 0x3f).toInt64)) := ⟨_, rfl⟩
  rw [← h_t3]
  refine own_go (T' := s₁) (g' := (mkF m 67 #[.val (.ref r0), .val (.ref r1), .val (.ref r2), .val (.long t0), .second, .val (.long t1), .second, .val (.long t2), .second, .val (.long t3), .second, .val (.long ((A4 + B4) + (t3 >>> ((52 : Int32) &&& 0x3f).toInt64))), .second] [])) (fun t k => ?_) ?_
  · show Steps p.tables e below (s₁.setTop (mkF m 52 #[.val (.ref r0), .val (.ref r1), .val (.ref r2), .val (.long t0), .second, .val (.long t1), .second, .val (.long t2), .second, .val (.long t3), .second, .unset, .unset] [])) t
    refine XS.aloadN X0.here hx rfl (hb hby d5_52) rfl rfl ?_
    show Steps p.tables e below (s₁.setTop (mkF m 53 #[.val (.ref r0), .val (.ref r1), .val (.ref r2), .val (.long t0), .second, .val (.long t1), .second, .val (.long t2), .second, .val (.long t3), .second, .unset, .unset] [(.ref r1)])) _
    refine XS.iconst X0.here hx rfl (hb hby d5_53) ?_
    show Steps p.tables e below (s₁.setTop (mkF m 54 #[.val (.ref r0), .val (.ref r1), .val (.ref r2), .val (.long t0), .second, .val (.long t1), .second, .val (.long t2), .second, .val (.long t3), .second, .unset, .unset] [(.int (4 : Int32)), (.ref r1)])) _
    refine own_ldJ X0 hx hZ e0 V1 (j := (4 : Int32)) (by decide) (v := (.long A4)) rfl (g := (mkF m 54 #[.val (.ref r0), .val (.ref r1), .val (.ref r2), .val (.long t0), .second, .val (.long t1), .second, .val (.long t2), .second, .val (.long t3), .second, .unset, .unset] [(.int (4 : Int32)), (.ref r1)])) rfl rfl (hb hby d5_54) _ ?_
    show Steps p.tables e below (s₁.setTop (mkF m 55 #[.val (.ref r0), .val (.ref r1), .val (.ref r2), .val (.long t0), .second, .val (.long t1), .second, .val (.long t2), .second, .val (.long t3), .second, .unset, .unset] [(.long A4)])) _
    refine XS.aloadN X0.here hx rfl (hb hby d5_55) rfl rfl ?_
    show Steps p.tables e below (s₁.setTop (mkF m 56 #[.val (.ref r0), .val (.ref r1), .val (.ref r2), .val (.long t0), .second, .val (.long t1), .second, .val (.long t2), .second, .val (.long t3), .second, .unset, .unset] [(.ref r2), (.long A4)])) _
    refine XS.iconst X0.here hx rfl (hb hby d5_56) ?_
    show Steps p.tables e below (s₁.setTop (mkF m 57 #[.val (.ref r0), .val (.ref r1), .val (.ref r2), .val (.long t0), .second, .val (.long t1), .second, .val (.long t2), .second, .val (.long t3), .second, .unset, .unset] [(.int (4 : Int32)), (.ref r2), (.long A4)])) _
    refine own_ldJ X0 hx hZ e0 V2 (j := (4 : Int32)) (by decide) (v := (.long B4)) rfl (g := (mkF m 57 #[.val (.ref r0), .val (.ref r1), .val (.ref r2), .val (.long t0), .second, .val (.long t1), .second, .val (.long t2), .second, .val (.long t3), .second, .unset, .unset] [(.int (4 : Int32)), (.ref r2), (.long A4)])) rfl rfl (hb hby d5_57) _ ?_
    show Steps p.tables e below (s₁.setTop (mkF m 58 #[.val (.ref r0), .val (.ref r1), .val (.ref r2), .val (.long t0), .second, .val (.long t1), .second, .val (.long t2), .second, .val (.long t3), .second, .unset, .unset] [(.long B4), (.long A4)])) _
    refine XS.ladd X0.here hx rfl (hb hby d5_58) rfl ?_
    show Steps p.tables e below (s₁.setTop (mkF m 59 #[.val (.ref r0), .val (.ref r1), .val (.ref r2), .val (.long t0), .second, .val (.long t1), .second, .val (.long t2), .second, .val (.long t3), .second, .unset, .unset] [(.long (A4 + B4))])) _
    refine XS.lload X0.here hx rfl (hb hby d5_59) rfl ?_
    show Steps p.tables e below (s₁.setTop (mkF m 61 #[.val (.ref r0), .val (.ref r1), .val (.ref r2), .val (.long t0), .second, .val (.long t1), .second, .val (.long t2), .second, .val (.long t3), .second, .unset, .unset] [(.long t3), (.long (A4 + B4))])) _
    refine XS.bipush X0.here hx rfl (hb hby d5_61) ?_
    show Steps p.tables e below (s₁.setTop (mkF m 63 #[.val (.ref r0), .val (.ref r1), .val (.ref r2), .val (.long t0), .second, .val (.long t1), .second, .val (.long t2), .second, .val (.long t3), .second, .unset, .unset] [(.int (52 : Int32)), (.long t3), (.long (A4 + B4))])) _
    refine XS.lshr X0.here hx rfl (hb hby d5_63) rfl ?_
    show Steps p.tables e below (s₁.setTop (mkF m 64 #[.val (.ref r0), .val (.ref r1), .val (.ref r2), .val (.long t0), .second, .val (.long t1), .second, .val (.long t2), .second, .val (.long t3), .second, .unset, .unset] [(.long (t3 >>> ((52 : Int32) &&& 0x3f).toInt64)), (.long (A4 + B4))])) _
    refine XS.ladd X0.here hx rfl (hb hby d5_64) rfl ?_
    show Steps p.tables e below (s₁.setTop (mkF m 65 #[.val (.ref r0), .val (.ref r1), .val (.ref r2), .val (.long t0), .second, .val (.long t1), .second, .val (.long t2), .second, .val (.long t3), .second, .unset, .unset] [(.long ((A4 + B4) + (t3 >>> ((52 : Int32) &&& 0x3f).toInt64)))])) _
    refine XS.lstore X0.here hx rfl (hb hby d5_65) rfl (l' := #[.val (.ref r0), .val (.ref r1), .val (.ref r2), .val (.long t0), .second, .val (.long t1), .second, .val (.long t2), .second, .val (.long t3), .second, .val (.long ((A4 + B4) + (t3 >>> ((52 : Int32) &&& 0x3f).toInt64))), .second]) rfl ?_
    show Steps p.tables e below (s₁.setTop (mkF m 67 #[.val (.ref r0), .val (.ref r1), .val (.ref r2), .val (.long t0), .second, .val (.long t1), .second, .val (.long t2), .second, .val (.long t3), .second, .val (.long ((A4 + B4) + (t3 >>> ((52 : Int32) &&& 0x3f).toInt64))), .second] [])) _
    exact k
  obtain ⟨t4, h_t4⟩ : ∃ z : Int64, z = ((A4 + B4) + (t3 >>> ((52 : Int32) &&& 0x3f).toInt64)) := ⟨_, rfl⟩
  rw [← h_t4]
  refine own_go (T' := s₁) (g' := (mkF m 93 #[.val (.ref r0), .val (.ref r1), .val (.ref r2), .val (.long t0), .second, .val (.long t1), .second, .val (.long t2), .second, .val (.long t3), .second, .val (.long t4), .second] [(.long t4), (.long (t3 &&& (4503599627370495 : Int64))), (.long (t2 &&& (4503599627370495 : Int64))), (.long (t1 &&& (4503599627370495 : Int64))), (.long (t0 &&& (4503599627370495 : Int64))), (.ref r0)])) (fun t k => ?_) ?_
  · show Steps p.tables e below (s₁.setTop (mkF m 67 #[.val (.ref r0), .val (.ref r1), .val (.ref r2), .val (.long t0), .second, .val (.long t1), .second, .val (.long t2), .second, .val (.long t3), .second, .val (.long t4), .second] [])) t
    refine XS.aloadN X0.here hx rfl (hb hby d5_67) rfl rfl ?_
    show Steps p.tables e below (s₁.setTop (mkF m 68 #[.val (.ref r0), .val (.ref r1), .val (.ref r2), .val (.long t0), .second, .val (.long t1), .second, .val (.long t2), .second, .val (.long t3), .second, .val (.long t4), .second] [(.ref r0)])) _
    refine XS.lloadN X0.here hx rfl (hb hby d5_68) rfl ?_
    show Steps p.tables e below (s₁.setTop (mkF m 69 #[.val (.ref r0), .val (.ref r1), .val (.ref r2), .val (.long t0), .second, .val (.long t1), .second, .val (.long t2), .second, .val (.long t3), .second, .val (.long t4), .second] [(.long t0), (.ref r0)])) _
    refine X0.ldc2Long hx hown (mvT hZ (hw _ (List.mem_of_getElem? (i := 18) rfl))) (g := (mkF m 69 #[.val (.ref r0), .val (.ref r1), .val (.ref r2), .val (.long t0), .second, .val (.long t1), .second, .val (.long t2), .second, .val (.long t3), .second, .val (.long t4), .second] [(.long t0), (.ref r0)])) rfl (hb hby d5_69) _ ?_
    show Steps p.tables e below (s₁.setTop (mkF m 72 #[.val (.ref r0), .val (.ref r1), .val (.ref r2), .val (.long t0), .second, .val (.long t1), .second, .val (.long t2), .second, .val (.long t3), .second, .val (.long t4), .second] [(.long (4503599627370495 : Int64)), (.long t0), (.ref r0)])) _
    refine XS.land X0.here hx rfl (hb hby d5_72) rfl ?_
    show Steps p.tables e below (s₁.setTop (mkF m 73 #[.val (.ref r0), .val (.ref r1), .val (.ref r2), .val (.long t0), .second, .val (.long t1), .second, .val (.long t2), .second, .val (.long t3), .second, .val (.long t4), .second] [(.long (t0 &&& (4503599627370495 : Int64))), (.ref r0)])) _
    refine XS.lload X0.here hx rfl (hb hby d5_73) rfl ?_
    show Steps p.tables e below (s₁.setTop (mkF m 75 #[.val (.ref r0), .val (.ref r1), .val (.ref r2), .val (.long t0), .second, .val (.long t1), .second, .val (.long t2), .second, .val (.long t3), .second, .val (.long t4), .second] [(.long t1), (.long (t0 &&& (4503599627370495 : Int64))), (.ref r0)])) _
    refine X0.ldc2Long hx hown (mvT hZ (hw _ (List.mem_of_getElem? (i := 18) rfl))) (g := (mkF m 75 #[.val (.ref r0), .val (.ref r1), .val (.ref r2), .val (.long t0), .second, .val (.long t1), .second, .val (.long t2), .second, .val (.long t3), .second, .val (.long t4), .second] [(.long t1), (.long (t0 &&& (4503599627370495 : Int64))), (.ref r0)])) rfl (hb hby d5_75) _ ?_
    show Steps p.tables e below (s₁.setTop (mkF m 78 #[.val (.ref r0), .val (.ref r1), .val (.ref r2), .val (.long t0), .second, .val (.long t1), .second, .val (.long t2), .second, .val (.long t3), .second, .val (.long t4), .second] [(.long (4503599627370495 : Int64)), (.long t1), (.long (t0 &&& (4503599627370495 : Int64))), (.ref r0)])) _
    refine XS.land X0.here hx rfl (hb hby d5_78) rfl ?_
    show Steps p.tables e below (s₁.setTop (mkF m 79 #[.val (.ref r0), .val (.ref r1), .val (.ref r2), .val (.long t0), .second, .val (.long t1), .second, .val (.long t2), .second, .val (.long t3), .second, .val (.long t4), .second] [(.long (t1 &&& (4503599627370495 : Int64))), (.long (t0 &&& (4503599627370495 : Int64))), (.ref r0)])) _
    refine XS.lload X0.here hx rfl (hb hby d5_79) rfl ?_
    show Steps p.tables e below (s₁.setTop (mkF m 81 #[.val (.ref r0), .val (.ref r1), .val (.ref r2), .val (.long t0), .second, .val (.long t1), .second, .val (.long t2), .second, .val (.long t3), .second, .val (.long t4), .second] [(.long t2), (.long (t1 &&& (4503599627370495 : Int64))), (.long (t0 &&& (4503599627370495 : Int64))), (.ref r0)])) _
    refine X0.ldc2Long hx hown (mvT hZ (hw _ (List.mem_of_getElem? (i := 18) rfl))) (g := (mkF m 81 #[.val (.ref r0), .val (.ref r1), .val (.ref r2), .val (.long t0), .second, .val (.long t1), .second, .val (.long t2), .second, .val (.long t3), .second, .val (.long t4), .second] [(.long t2), (.long (t1 &&& (4503599627370495 : Int64))), (.long (t0 &&& (4503599627370495 : Int64))), (.ref r0)])) rfl (hb hby d5_81) _ ?_
    show Steps p.tables e below (s₁.setTop (mkF m 84 #[.val (.ref r0), .val (.ref r1), .val (.ref r2), .val (.long t0), .second, .val (.long t1), .second, .val (.long t2), .second, .val (.long t3), .second, .val (.long t4), .second] [(.long (4503599627370495 : Int64)), (.long t2), (.long (t1 &&& (4503599627370495 : Int64))), (.long (t0 &&& (4503599627370495 : Int64))), (.ref r0)])) _
    refine XS.land X0.here hx rfl (hb hby d5_84) rfl ?_
    show Steps p.tables e below (s₁.setTop (mkF m 85 #[.val (.ref r0), .val (.ref r1), .val (.ref r2), .val (.long t0), .second, .val (.long t1), .second, .val (.long t2), .second, .val (.long t3), .second, .val (.long t4), .second] [(.long (t2 &&& (4503599627370495 : Int64))), (.long (t1 &&& (4503599627370495 : Int64))), (.long (t0 &&& (4503599627370495 : Int64))), (.ref r0)])) _
    refine XS.lload X0.here hx rfl (hb hby d5_85) rfl ?_
    show Steps p.tables e below (s₁.setTop (mkF m 87 #[.val (.ref r0), .val (.ref r1), .val (.ref r2), .val (.long t0), .second, .val (.long t1), .second, .val (.long t2), .second, .val (.long t3), .second, .val (.long t4), .second] [(.long t3), (.long (t2 &&& (4503599627370495 : Int64))), (.long (t1 &&& (4503599627370495 : Int64))), (.long (t0 &&& (4503599627370495 : Int64))), (.ref r0)])) _
    refine X0.ldc2Long hx hown (mvT hZ (hw _ (List.mem_of_getElem? (i := 18) rfl))) (g := (mkF m 87 #[.val (.ref r0), .val (.ref r1), .val (.ref r2), .val (.long t0), .second, .val (.long t1), .second, .val (.long t2), .second, .val (.long t3), .second, .val (.long t4), .second] [(.long t3), (.long (t2 &&& (4503599627370495 : Int64))), (.long (t1 &&& (4503599627370495 : Int64))), (.long (t0 &&& (4503599627370495 : Int64))), (.ref r0)])) rfl (hb hby d5_87) _ ?_
    show Steps p.tables e below (s₁.setTop (mkF m 90 #[.val (.ref r0), .val (.ref r1), .val (.ref r2), .val (.long t0), .second, .val (.long t1), .second, .val (.long t2), .second, .val (.long t3), .second, .val (.long t4), .second] [(.long (4503599627370495 : Int64)), (.long t3), (.long (t2 &&& (4503599627370495 : Int64))), (.long (t1 &&& (4503599627370495 : Int64))), (.long (t0 &&& (4503599627370495 : Int64))), (.ref r0)])) _
    refine XS.land X0.here hx rfl (hb hby d5_90) rfl ?_
    show Steps p.tables e below (s₁.setTop (mkF m 91 #[.val (.ref r0), .val (.ref r1), .val (.ref r2), .val (.long t0), .second, .val (.long t1), .second, .val (.long t2), .second, .val (.long t3), .second, .val (.long t4), .second] [(.long (t3 &&& (4503599627370495 : Int64))), (.long (t2 &&& (4503599627370495 : Int64))), (.long (t1 &&& (4503599627370495 : Int64))), (.long (t0 &&& (4503599627370495 : Int64))), (.ref r0)])) _
    refine XS.lload X0.here hx rfl (hb hby d5_91) rfl ?_
    show Steps p.tables e below (s₁.setTop (mkF m 93 #[.val (.ref r0), .val (.ref r1), .val (.ref r2), .val (.long t0), .second, .val (.long t1), .second, .val (.long t2), .second, .val (.long t3), .second, .val (.long t4), .second] [(.long t4), (.long (t3 &&& (4503599627370495 : Int64))), (.long (t2 &&& (4503599627370495 : Int64))), (.long (t1 &&& (4503599627370495 : Int64))), (.long (t0 &&& (4503599627370495 : Int64))), (.ref r0)])) _
    exact k
  obtain ⟨_, T1, L1, X1, N1, ⟨rfl, K1, s0, s1, s2, s3, s4, m2, E1, V1⟩, st1⟩ := own_callS X0 hx hZ hown (hw _ (List.mem_of_getElem? (i := 28) rfl)) (hw _ (List.mem_of_getElem? (i := 29) rfl)) (hw _ (List.mem_of_getElem? (i := 16) rfl)) (hw _ (List.mem_of_getElem? (i := 30) rfl)) (by decide) (argsL := [(.ref r0), (.long (t0 &&& (4503599627370495 : Int64))), (.long (t1 &&& (4503599627370495 : Int64))), (.long (t2 &&& (4503599627370495 : Int64))), (.long (t3 &&& (4503599627370495 : Int64))), (.long t4)]) (rest := []) (rm6 l Z a0 hw r0 k0 O0 O1 O2 O3 O4 (t0 &&& (4503599627370495 : Int64)) (t1 &&& (4503599627370495 : Int64)) (t2 &&& (4503599627370495 : Int64)) (t3 &&& (4503599627370495 : Int64)) t4 h0 n0 Z0 ga_r0 V0) (W := 0) (by decide) (by decide) (g := (mkF m 93 #[.val (.ref r0), .val (.ref r1), .val (.ref r2), .val (.long t0), .second, .val (.long t1), .second, .val (.long t2), .second, .val (.long t3), .second, .val (.long t4), .second] [(.long t4), (.long (t3 &&& (4503599627370495 : Int64))), (.long (t2 &&& (4503599627370495 : Int64))), (.long (t1 &&& (4503599627370495 : Int64))), (.long (t0 &&& (4503599627370495 : Int64))), (.ref r0)])) rfl (by rw [hml]; rfl) pd_0 rfl rfl (by show 2 * 0 + _ ≤ _; exact Nat.le_of_eq rfl) (hb hby d5_93) e0 (by decide) (by decide) N0
  refine own_go (T' := T1) (g' := (mkF m 96 #[.val (.ref r0), .val (.ref r1), .val (.ref r2), .val (.long t0), .second, .val (.long t1), .second, .val (.long t2), .second, .val (.long t3), .second, .val (.long t4), .second] [])) st1 ?_
  exact own_retV X1 hx hlk hret (hb hby d5_96) (by decide) (by decide) N1 ⟨rfl, K1, t0, t1, t2, t3, t4, s0, s1, s2, s3, s4, m2, ⟨h_t0, h_t1, h_t2, h_t3, h_t4⟩, E1, V1⟩
def own_v (x0 x1 x2 x3 x4 : Int64) : Int := x0.toInt + 4503599627370496 * x1.toInt + 20282409603651670423947251286016 * x2.toInt + 91343852333181432387730302044767688728495783936 * x3.toInt + 411376139330301510538742295639337626245683966408394965837152256 * x4.toInt
def own_R (x0 x1 x2 x3 x4 : Int64) : Prop := (0 ≤ x0.toInt ∧ x0.toInt < 4503599627370496) ∧ (0 ≤ x1.toInt ∧ x1.toInt < 4503599627370496) ∧ (0 ≤ x2.toInt ∧ x2.toInt < 4503599627370496) ∧ (0 ≤ x3.toInt ∧ x3.toInt < 4503599627370496) ∧ (0 ≤ x4.toInt ∧ x4.toInt < 281474976710656) ∧ own_v x0 x1 x2 x3 x4 < 115792089210356248762697446949407573530086143415290314195533631308867097853951
theorem own_lp (x0 x1 x2 x3 x4 : Int64) (r0 : 0 ≤ x0.toInt ∧ x0.toInt < 4503599627370496) (r1 : 0 ≤ x1.toInt ∧ x1.toInt < 4503599627370496) (r2 : 0 ≤ x2.toInt ∧ x2.toInt < 4503599627370496) (r3 : 0 ≤ x3.toInt ∧ x3.toInt < 4503599627370496) : f1_0 x0 x1 x2 x3 x4 = if own_v x0 x1 x2 x3 x4 < 115792089210356248762697446949407573530086143415290314195533631308867097853951 then (1 : Int32) else 0 := by
  unfold f1_0 own_v
  simp only [← Int64.toInt_inj, Int64.lt_iff_toInt_lt, show (281474976645120 : Int64).toInt = 281474976645120 from by decide, show (68719476736 : Int64).toInt = 68719476736 from by decide, show (0 : Int64).toInt = 0 from rfl, show (17592186044415 : Int64).toInt = 17592186044415 from by decide, show (4503599627370495 : Int64).toInt = 4503599627370495 from by decide]
  repeat' split
  all_goals first | rfl | (exfalso; omega)
theorem own_m52 (x : Int64) : (x &&& (4503599627370495 : Int64)).toInt = x.toInt % 4503599627370496 := by
  have h := c_maskL x 4503599627370495 52 (by decide) (by decide)
  simpa using h
theorem own_m48 (x : Int64) : (x &&& (281474976710655 : Int64)).toInt = x.toInt % 281474976710656 := by
  have h := c_maskL x 281474976710655 48 (by decide) (by decide)
  simpa using h
theorem own_m47 (x : Int64) : ((x &&& (281474976710655 : Int64)) &&& (-140737488355329 : Int64)).toInt = x.toInt % 140737488355328 := by
  rw [Int64.and_assoc, show ((281474976710655 : Int64) &&& (-140737488355329 : Int64)) = 140737488355327 from by decide]
  have h := c_maskL x 140737488355327 47 (by decide) (by decide)
  simpa using h
theorem own_fix {x0 x1 x2 x3 x4 z y : Int64} (r0 : 0 ≤ x0.toInt ∧ x0.toInt < 4503599627370496) (r1 : 0 ≤ x1.toInt ∧ x1.toInt < 4503599627370496) (r2 : 0 ≤ x2.toInt ∧ x2.toInt < 4503599627370496) (r3 : 0 ≤ x3.toInt ∧ x3.toInt < 4503599627370496) (h4 : x4 = (z &&& (281474976710655 : Int64))) (hy : y = (if (f1_0 x0 x1 x2 x3 x4) = (0 : Int32) then (x4 &&& (-140737488355329 : Int64)) else x4)) : own_R x0 x1 x2 x3 y := by
  have l := own_lp x0 x1 x2 x3 x4 r0 r1 r2 r3
  have e1 := own_m48 z
  have e2 := own_m47 z
  rw [← h4] at e1 e2
  by_cases h : (f1_0 x0 x1 x2 x3 x4) = (0 : Int32)
  · rw [if_pos h] at hy
    subst hy
    refine ⟨r0, r1, r2, r3, by omega, ?_⟩
    unfold own_v
    omega
  · rw [if_neg h] at hy
    subst hy
    refine ⟨r0, r1, r2, r3, by omega, ?_⟩
    by_cases g : own_v x0 x1 x2 x3 y < 115792089210356248762697446949407573530086143415290314195533631308867097853951
    · exact g
    · rw [if_neg g] at l; exact absurd l h
theorem own_inA {q0 q1 q2 q3 q4 x0 x1 x2 x3 x4 y : Int64} (h0 : x0 = (q0 &&& (4503599627370495 : Int64))) (h1 : x1 = (q1 &&& (4503599627370495 : Int64))) (h2 : x2 = (q2 &&& (4503599627370495 : Int64))) (h3 : x3 = (q3 &&& (4503599627370495 : Int64))) (h4 : x4 = (q4 &&& (281474976710655 : Int64))) (hy : y = (if (f1_0 x0 x1 x2 x3 x4) = (0 : Int32) then (x4 &&& (-140737488355329 : Int64)) else x4)) : own_R x0 x1 x2 x3 y := by
  have e0 := own_m52 q0
  have e1 := own_m52 q1
  have e2 := own_m52 q2
  have e3 := own_m52 q3
  rw [← h0] at e0
  rw [← h1] at e1
  rw [← h2] at e2
  rw [← h3] at e3
  exact own_fix (by omega) (by omega) (by omega) (by omega) h4 hy
theorem own_limb (q0 q1 q2 q3 : Int64) (p4 : Int32) (h0 : 0 ≤ q0.toInt ∧ q0.toInt < 4503599627370496) (h2 : 0 ≤ q2.toInt ∧ q2.toInt < 4503599627370496) : 0 ≤ (f2_0 q0 q1 q2 q3 p4).toInt ∧ (f2_0 q0 q1 q2 q3 p4).toInt < 4503599627370496 := by
  unfold f2_0
  repeat' split
  all_goals first | exact h0 | exact h2 | decide | (rw [own_m52]; omega)
theorem own_inB {x0 x1 x2 x3 y q0 q1 q2 q3 q4 mix w0 w1 w2 w3 w4 w5 z mx : Int64} {m0 m1 m2 m3 m4 : Int32} (h0 : w0 = (f2_0 x0 q0 (4503599627370495 : Int64) mix m0)) (h1 : w1 = (f2_0 x1 q1 (17592186044415 : Int64) mix m1)) (h2 : w2 = (f2_0 x2 q2 (0 : Int64) mix m2)) (h3 : w3 = (f2_0 x3 q3 (68719476736 : Int64) mix m3)) (h4 : w4 = (f2_0 y q4 (281474976645120 : Int64) mix m4)) (h5 : w5 = (w4 &&& (281474976710655 : Int64))) (hz : z = (if (f1_0 w0 w1 w2 w3 w5) = (0 : Int32) then (w5 &&& (-140737488355329 : Int64)) else w5)) (Ha : own_R x0 x1 x2 x3 y) (hm : mix = mx) : own_R w0 w1 w2 w3 z := by
  obtain ⟨a0, a1, a2, a3, -, -⟩ := Ha
  have e0 := own_limb x0 q0 4503599627370495 mix m0 a0 (by decide)
  have e1 := own_limb x1 q1 17592186044415 mix m1 a1 (by decide)
  have e2 := own_limb x2 q2 0 mix m2 a2 (by decide)
  have e3 := own_limb x3 q3 68719476736 mix m3 a3 (by decide)
  rw [← h0] at e0
  rw [← h1] at e1
  rw [← h2] at e2
  rw [← h3] at e3
  exact own_fix e0 e1 e2 e3 h5 hz
theorem own_ad (x y : Int64) (h1 : -4611686018427387904 ≤ x.toInt + y.toInt) (h2 : x.toInt + y.toInt ≤ 4611686018427387904) : (x + y).toInt = x.toInt + y.toInt := by
  have h := c_ladd x y
  have r := rng64 (x + y)
  omega
theorem own_sb (x y : Int64) (h1 : -4611686018427387904 ≤ x.toInt - y.toInt) (h2 : x.toInt - y.toInt ≤ 4611686018427387904) : (x - y).toInt = x.toInt - y.toInt := by
  have h := c_lsub x y
  have r := rng64 (x - y)
  omega
theorem own_sh (x : Int64) : (x >>> ((52 : Int32) &&& 0x3f).toInt64).toInt = x.toInt / 4503599627370496 := by
  have h := c_lshr x 52 52 (by decide)
  simpa using h
theorem own_sg (x : Int64) (hx : -4611686018427387904 ≤ x.toInt) (hx2 : x.toInt ≤ 4611686018427387904) : (x.toInt < 0 → (x >>> ((63 : Int32) &&& 0x3f).toInt64) = -1) ∧ (0 ≤ x.toInt → (x >>> ((63 : Int32) &&& 0x3f).toInt64) = 0) := by
  have h := c_lshr x 63 63 (by decide)
  have h' : (x >>> ((63 : Int32) &&& 0x3f).toInt64).toInt = x.toInt / 9223372036854775808 := by simpa using h
  refine ⟨fun q => Int64.toInt_inj.mp ?_, fun q => Int64.toInt_inj.mp ?_⟩
  · rw [h', show (-1 : Int64).toInt = -1 from rfl]; omega
  · rw [h', show (0 : Int64).toInt = 0 from rfl]; omega
theorem own_an1 (x : Int64) : x &&& (-1 : Int64) = x := Int64.and_neg_one
theorem own_an0 (x : Int64) : x &&& (0 : Int64) = 0 := Int64.and_zero
theorem own_bq (c : Int) (h1 : -9007199254740992 ≤ c) (h2 : c ≤ 9007199254740992) : -2 ≤ c / 4503599627370496 ∧ c / 4503599627370496 ≤ 2 := by omega
theorem own_s1 (x y : Int64) (hx : 0 ≤ x.toInt ∧ x.toInt < 4503599627370496) (hy : 0 ≤ y.toInt ∧ y.toInt < 4503599627370496) : (x - y).toInt = x.toInt - y.toInt ∧ -9007199254740992 ≤ (x - y).toInt ∧ (x - y).toInt ≤ 9007199254740992 := by
  have h := own_sb x y (by omega) (by omega)
  omega
theorem own_s2 (x y c : Int64) (hx : 0 ≤ x.toInt ∧ x.toInt < 4503599627370496) (hy : 0 ≤ y.toInt ∧ y.toInt < 4503599627370496) (hc : -9007199254740992 ≤ c.toInt ∧ c.toInt ≤ 9007199254740992) : ((x - y) + (c >>> ((52 : Int32) &&& 0x3f).toInt64)).toInt = x.toInt - y.toInt + c.toInt / 4503599627370496 ∧ -9007199254740992 ≤ ((x - y) + (c >>> ((52 : Int32) &&& 0x3f).toInt64)).toInt ∧ ((x - y) + (c >>> ((52 : Int32) &&& 0x3f).toInt64)).toInt ≤ 9007199254740992 := by
  have h := own_sb x y (by omega) (by omega)
  have z := own_sh c
  have q := own_bq c.toInt hc.1 hc.2
  have g := own_ad (x - y) (c >>> ((52 : Int32) &&& 0x3f).toInt64) (by omega) (by omega)
  omega
theorem own_a1 (x y : Int64) (hx : 0 ≤ x.toInt ∧ x.toInt < 4503599627370496) (hy : 0 ≤ y.toInt ∧ y.toInt < 4503599627370496) : (x + y).toInt = x.toInt + y.toInt ∧ -9007199254740992 ≤ (x + y).toInt ∧ (x + y).toInt ≤ 9007199254740992 := by
  have h := own_ad x y (by omega) (by omega)
  omega
theorem own_a2 (x y c : Int64) (hx : 0 ≤ x.toInt ∧ x.toInt < 4503599627370496) (hy : 0 ≤ y.toInt ∧ y.toInt < 4503599627370496) (hc : -9007199254740992 ≤ c.toInt ∧ c.toInt ≤ 9007199254740992) : ((x + y) + (c >>> ((52 : Int32) &&& 0x3f).toInt64)).toInt = x.toInt + y.toInt + c.toInt / 4503599627370496 ∧ -9007199254740992 ≤ ((x + y) + (c >>> ((52 : Int32) &&& 0x3f).toInt64)).toInt ∧ ((x + y) + (c >>> ((52 : Int32) &&& 0x3f).toInt64)).toInt ≤ 9007199254740992 := by
  have h := own_ad x y (by omega) (by omega)
  have z := own_sh c
  have q := own_bq c.toInt hc.1 hc.2
  have g := own_ad (x + y) (c >>> ((52 : Int32) &&& 0x3f).toInt64) (by omega) (by omega)
  omega
theorem own_a3 (x c : Int64) (hx : 0 ≤ x.toInt ∧ x.toInt < 4503599627370496) (hc : -9007199254740992 ≤ c.toInt ∧ c.toInt ≤ 9007199254740992) : (x + (c >>> ((52 : Int32) &&& 0x3f).toInt64)).toInt = x.toInt + c.toInt / 4503599627370496 ∧ -9007199254740992 ≤ (x + (c >>> ((52 : Int32) &&& 0x3f).toInt64)).toInt ∧ (x + (c >>> ((52 : Int32) &&& 0x3f).toInt64)).toInt ≤ 9007199254740992 := by
  have z := own_sh c
  have q := own_bq c.toInt hc.1 hc.2
  have g := own_ad x (c >>> ((52 : Int32) &&& 0x3f).toInt64) (by omega) (by omega)
  omega
theorem own_a4 (x y c : Int64) (hx : -9007199254740992 ≤ x.toInt ∧ x.toInt ≤ 9007199254740992) (hy : 0 ≤ y.toInt ∧ y.toInt < 4503599627370496) (hc : -9007199254740992 ≤ c.toInt ∧ c.toInt ≤ 9007199254740992) : ((x + y) + (c >>> ((52 : Int32) &&& 0x3f).toInt64)).toInt = x.toInt + y.toInt + c.toInt / 4503599627370496 := by
  have h := own_ad x y (by omega) (by omega)
  have z := own_sh c
  have q := own_bq c.toInt hc.1 hc.2
  have g := own_ad (x + y) (c >>> ((52 : Int32) &&& 0x3f).toInt64) (by omega) (by omega)
  omega
theorem own_s4 (x y c : Int64) (hx : -9007199254740992 ≤ x.toInt ∧ x.toInt ≤ 9007199254740992) (hy : 0 ≤ y.toInt ∧ y.toInt < 4503599627370496) (hc : -9007199254740992 ≤ c.toInt ∧ c.toInt ≤ 9007199254740992) : ((x - y) + (c >>> ((52 : Int32) &&& 0x3f).toInt64)).toInt = x.toInt - y.toInt + c.toInt / 4503599627370496 ∧ -18014398509481984 ≤ ((x - y) + (c >>> ((52 : Int32) &&& 0x3f).toInt64)).toInt ∧ ((x - y) + (c >>> ((52 : Int32) &&& 0x3f).toInt64)).toInt ≤ 18014398509481984 := by
  have h := own_sb x y (by omega) (by omega)
  have z := own_sh c
  have q := own_bq c.toInt hc.1 hc.2
  have g := own_ad (x - y) (c >>> ((52 : Int32) &&& 0x3f).toInt64) (by omega) (by omega)
  omega
theorem own_l (t : Int64) : (t &&& (4503599627370495 : Int64)).toInt = t.toInt % 4503599627370496 ∧ 0 ≤ (t &&& (4503599627370495 : Int64)).toInt ∧ (t &&& (4503599627370495 : Int64)).toInt < 4503599627370496 := by
  have h := own_m52 t
  omega
theorem own_w48 {x : Int64} (h : 0 ≤ x.toInt ∧ x.toInt < 281474976710656) : 0 ≤ x.toInt ∧ x.toInt < 4503599627370496 := by omega
theorem own_vR {x0 x1 x2 x3 x4 : Int64} (H : own_R x0 x1 x2 x3 x4) : 0 ≤ own_v x0 x1 x2 x3 x4 ∧ own_v x0 x1 x2 x3 x4 < 115792089210356248762697446949407573530086143415290314195533631308867097853951 := by
  obtain ⟨a0, a1, a2, a3, a4, h⟩ := H
  refine ⟨?_, h⟩
  unfold own_v
  clear h
  omega
theorem own_W1 (a0 a1 a2 a3 a4 b0 b1 b2 b3 b4 t0 t1 t2 t3 t4 l0 l1 l2 l3 : Int) (h0 : t0 = a0 - b0) (h1 : t1 = a1 - b1 + t0 / 4503599627370496) (h2 : t2 = a2 - b2 + t1 / 4503599627370496) (h3 : t3 = a3 - b3 + t2 / 4503599627370496) (h4 : t4 = a4 - b4 + t3 / 4503599627370496) (e0 : l0 = t0 % 4503599627370496) (e1 : l1 = t1 % 4503599627370496) (e2 : l2 = t2 % 4503599627370496) (e3 : l3 = t3 % 4503599627370496) :
    (a0 + 4503599627370496 * a1 + 20282409603651670423947251286016 * a2 + 91343852333181432387730302044767688728495783936 * a3 + 411376139330301510538742295639337626245683966408394965837152256 * a4) - (b0 + 4503599627370496 * b1 + 20282409603651670423947251286016 * b2 + 91343852333181432387730302044767688728495783936 * b3 + 411376139330301510538742295639337626245683966408394965837152256 * b4) = l0 + 4503599627370496 * l1 + 20282409603651670423947251286016 * l2 + 91343852333181432387730302044767688728495783936 * l3 + 411376139330301510538742295639337626245683966408394965837152256 * t4 := by
  omega
theorem own_W3 (a0 a1 a2 a3 a4 b0 b1 b2 b3 b4 t0 t1 t2 t3 t4 l0 l1 l2 l3 : Int) (h0 : t0 = a0 + b0) (h1 : t1 = a1 + b1 + t0 / 4503599627370496) (h2 : t2 = a2 + b2 + t1 / 4503599627370496) (h3 : t3 = a3 + b3 + t2 / 4503599627370496) (h4 : t4 = a4 + b4 + t3 / 4503599627370496) (e0 : l0 = t0 % 4503599627370496) (e1 : l1 = t1 % 4503599627370496) (e2 : l2 = t2 % 4503599627370496) (e3 : l3 = t3 % 4503599627370496) :
    (a0 + 4503599627370496 * a1 + 20282409603651670423947251286016 * a2 + 91343852333181432387730302044767688728495783936 * a3 + 411376139330301510538742295639337626245683966408394965837152256 * a4) + (b0 + 4503599627370496 * b1 + 20282409603651670423947251286016 * b2 + 91343852333181432387730302044767688728495783936 * b3 + 411376139330301510538742295639337626245683966408394965837152256 * b4) = l0 + 4503599627370496 * l1 + 20282409603651670423947251286016 * l2 + 91343852333181432387730302044767688728495783936 * l3 + 411376139330301510538742295639337626245683966408394965837152256 * t4 := by
  omega
theorem own_W2 (l0 l1 l2 l3 t4 p0 p1 p3 p4 u0 u1 u2 u3 u4 r0 r1 r2 r3 : Int) (h0 : u0 = l0 + p0) (h1 : u1 = l1 + p1 + u0 / 4503599627370496) (h2 : u2 = l2 + u1 / 4503599627370496) (h3 : u3 = l3 + p3 + u2 / 4503599627370496) (h4 : u4 = t4 + p4 + u3 / 4503599627370496) (e0 : r0 = u0 % 4503599627370496) (e1 : r1 = u1 % 4503599627370496) (e2 : r2 = u2 % 4503599627370496) (e3 : r3 = u3 % 4503599627370496) :
    r0 + 4503599627370496 * r1 + 20282409603651670423947251286016 * r2 + 91343852333181432387730302044767688728495783936 * r3 + 411376139330301510538742295639337626245683966408394965837152256 * u4 = (l0 + 4503599627370496 * l1 + 20282409603651670423947251286016 * l2 + 91343852333181432387730302044767688728495783936 * l3 + 411376139330301510538742295639337626245683966408394965837152256 * t4) + (p0 + 4503599627370496 * p1 + 91343852333181432387730302044767688728495783936 * p3 + 411376139330301510538742295639337626245683966408394965837152256 * p4) := by
  omega
theorem own_W4 (l0 l1 l2 l3 t4 s0 s1 s2 s3 s4 r0 r1 r2 r3 : Int) (h0 : s0 = l0 - 4503599627370495) (h1 : s1 = l1 - 17592186044415 + s0 / 4503599627370496) (h2 : s2 = l2 + s1 / 4503599627370496) (h3 : s3 = l3 - 68719476736 + s2 / 4503599627370496) (h4 : s4 = t4 - 281474976645120 + s3 / 4503599627370496) (e0 : r0 = s0 % 4503599627370496) (e1 : r1 = s1 % 4503599627370496) (e2 : r2 = s2 % 4503599627370496) (e3 : r3 = s3 % 4503599627370496) :
    r0 + 4503599627370496 * r1 + 20282409603651670423947251286016 * r2 + 91343852333181432387730302044767688728495783936 * r3 + 411376139330301510538742295639337626245683966408394965837152256 * s4 = (l0 + 4503599627370496 * l1 + 20282409603651670423947251286016 * l2 + 91343852333181432387730302044767688728495783936 * l3 + 411376139330301510538742295639337626245683966408394965837152256 * t4) - 115792089210356248762697446949407573530086143415290314195533631308867097853951 := by
  omega
theorem own_small (l0 l1 l2 l3 : Int) (c0 : 0 ≤ l0 ∧ l0 < 4503599627370496) (c1 : 0 ≤ l1 ∧ l1 < 4503599627370496) (c2 : 0 ≤ l2 ∧ l2 < 4503599627370496) (c3 : 0 ≤ l3 ∧ l3 < 4503599627370496) : 0 ≤ l0 + 4503599627370496 * l1 + 20282409603651670423947251286016 * l2 + 91343852333181432387730302044767688728495783936 * l3 ∧ l0 + 4503599627370496 * l1 + 20282409603651670423947251286016 * l2 + 91343852333181432387730302044767688728495783936 * l3 < 411376139330301510538742295639337626245683966408394965837152256 := by omega
theorem own_fin (vA vB S R t4 u4 : Int) (hA : 0 ≤ vA ∧ vA < 115792089210356248762697446949407573530086143415290314195533631308867097853951) (hB : 0 ≤ vB ∧ vB < 115792089210356248762697446949407573530086143415290314195533631308867097853951) (W : vA - vB = S + 411376139330301510538742295639337626245683966408394965837152256 * t4) (hS : 0 ≤ S ∧ S < 411376139330301510538742295639337626245683966408394965837152256) (hR : 0 ≤ R ∧ R < 411376139330301510538742295639337626245683966408394965837152256) (U : (t4 < 0 ∧ R + 411376139330301510538742295639337626245683966408394965837152256 * u4 = S + 411376139330301510538742295639337626245683966408394965837152256 * t4 + 115792089210356248762697446949407573530086143415290314195533631308867097853951) ∨ (0 ≤ t4 ∧ R + 411376139330301510538742295639337626245683966408394965837152256 * u4 = S + 411376139330301510538742295639337626245683966408394965837152256 * t4)) : (0 ≤ u4 ∧ u4 < 281474976710656) ∧ R + 411376139330301510538742295639337626245683966408394965837152256 * u4 < 115792089210356248762697446949407573530086143415290314195533631308867097853951 ∧ (R + 411376139330301510538742295639337626245683966408394965837152256 * u4 = vA - vB ∨ R + 411376139330301510538742295639337626245683966408394965837152256 * u4 = vA - vB + 115792089210356248762697446949407573530086143415290314195533631308867097853951) := by
  rcases U with ⟨q, U⟩ | ⟨q, U⟩ <;> omega
theorem own_ir {x0 x1 x2 x3 x4 : Int64} (H : own_R x0 x1 x2 x3 x4) : ¬ f4_0 x0 x1 x2 x3 x4 = (0 : Int32) := by
  obtain ⟨a0, a1, a2, a3, a4, -⟩ := H
  unfold f4_0
  simp only [Int64.lt_iff_toInt_lt, show (0 : Int64).toInt = 0 from rfl, show (4503599627370495 : Int64).toInt = 4503599627370495 from by decide]
  repeat' split
  all_goals first | (exfalso; omega) | decide
theorem own_lt {x0 x1 x2 x3 x4 : Int64} (H : own_R x0 x1 x2 x3 x4) : ¬ f1_0 x0 x1 x2 x3 x4 = (0 : Int32) := by
  obtain ⟨a0, a1, a2, a3, a4, h⟩ := H
  rw [own_lp x0 x1 x2 x3 x4 a0 a1 a2 a3, if_pos h]
  decide

theorem own_main1 {A0 A1 A2 A3 A4 B0 B1 B2 B3 B4 t0 t1 t2 t3 t4 m1 u0 u1 u2 u3 u4 : Int64} (Ha : own_R A0 A1 A2 A3 A4) (Hb : own_R B0 B1 B2 B3 B4) (E : own_E3 A0 A1 A2 A3 A4 B0 B1 B2 B3 B4 t0 t1 t2 t3 t4 m1 u0 u1 u2 u3 u4) :
    ¬ f4_0 (u0 &&& (4503599627370495 : Int64)) (u1 &&& (4503599627370495 : Int64)) (u2 &&& (4503599627370495 : Int64)) (u3 &&& (4503599627370495 : Int64)) u4 = (0 : Int32) ∧ ¬ f1_0 (u0 &&& (4503599627370495 : Int64)) (u1 &&& (4503599627370495 : Int64)) (u2 &&& (4503599627370495 : Int64)) (u3 &&& (4503599627370495 : Int64)) u4 = (0 : Int32) ∧ own_R (u0 &&& (4503599627370495 : Int64)) (u1 &&& (4503599627370495 : Int64)) (u2 &&& (4503599627370495 : Int64)) (u3 &&& (4503599627370495 : Int64)) u4 ∧ (own_v (u0 &&& (4503599627370495 : Int64)) (u1 &&& (4503599627370495 : Int64)) (u2 &&& (4503599627370495 : Int64)) (u3 &&& (4503599627370495 : Int64)) u4 = own_v A0 A1 A2 A3 A4 - own_v B0 B1 B2 B3 B4 ∨ own_v (u0 &&& (4503599627370495 : Int64)) (u1 &&& (4503599627370495 : Int64)) (u2 &&& (4503599627370495 : Int64)) (u3 &&& (4503599627370495 : Int64)) u4 = own_v A0 A1 A2 A3 A4 - own_v B0 B1 B2 B3 B4 + 115792089210356248762697446949407573530086143415290314195533631308867097853951) := by
  suffices h : own_R (u0 &&& (4503599627370495 : Int64)) (u1 &&& (4503599627370495 : Int64)) (u2 &&& (4503599627370495 : Int64)) (u3 &&& (4503599627370495 : Int64)) u4 ∧ (own_v (u0 &&& (4503599627370495 : Int64)) (u1 &&& (4503599627370495 : Int64)) (u2 &&& (4503599627370495 : Int64)) (u3 &&& (4503599627370495 : Int64)) u4 = own_v A0 A1 A2 A3 A4 - own_v B0 B1 B2 B3 B4 ∨ own_v (u0 &&& (4503599627370495 : Int64)) (u1 &&& (4503599627370495 : Int64)) (u2 &&& (4503599627370495 : Int64)) (u3 &&& (4503599627370495 : Int64)) u4 = own_v A0 A1 A2 A3 A4 - own_v B0 B1 B2 B3 B4 + 115792089210356248762697446949407573530086143415290314195533631308867097853951) from ⟨own_ir h.1, own_lt h.1, h⟩
  have VA := own_vR Ha
  have VB := own_vR Hb
  obtain ⟨e0, e1, e2, e3, e4, em, f0, f1, f2, f3, f4⟩ := E
  obtain ⟨a0, a1, a2, a3, a4, -⟩ := Ha
  obtain ⟨b0, b1, b2, b3, b4, -⟩ := Hb
  have T0 := own_s1 A0 B0 a0 b0
  rw [← e0] at T0
  have T1 := own_s2 A1 B1 t0 a1 b1 T0.2
  rw [← e1] at T1
  have T2 := own_s2 A2 B2 t1 a2 b2 T1.2
  rw [← e2] at T2
  have T3 := own_s2 A3 B3 t2 a3 b3 T2.2
  rw [← e3] at T3
  have T4 := own_s2 A4 B4 t3 (own_w48 a4) (own_w48 b4) T3.2
  rw [← e4] at T4
  have l0 := own_l t0
  have l1 := own_l t1
  have l2 := own_l t2
  have l3 := own_l t3
  have W : own_v A0 A1 A2 A3 A4 - own_v B0 B1 B2 B3 B4 = ((t0 &&& (4503599627370495 : Int64)).toInt + 4503599627370496 * (t1 &&& (4503599627370495 : Int64)).toInt + 20282409603651670423947251286016 * (t2 &&& (4503599627370495 : Int64)).toInt + 91343852333181432387730302044767688728495783936 * (t3 &&& (4503599627370495 : Int64)).toInt) + 411376139330301510538742295639337626245683966408394965837152256 * t4.toInt := own_W1 _ _ _ _ _ _ _ _ _ _ _ _ _ _ _ _ _ _ _ T0.1 T1.1 T2.1 T3.1 T4.1 l0.1 l1.1 l2.1 l3.1
  have HS := own_small _ _ _ _ l0.2 l1.2 l2.2 l3.2
  have r0 := own_l u0
  have r1 := own_l u1
  have r2 := own_l u2
  have r3 := own_l u3
  have HR := own_small _ _ _ _ r0.2 r1.2 r2.2 r3.2
  have g := own_sg t4 (Int.le_trans (by decide) T4.2.1) (Int.le_trans T4.2.2 (by decide))
  rw [← em] at g
  have fin := own_fin _ _ _ _ t4.toInt u4.toInt VA VB W HS HR
  suffices U : _ by
    obtain ⟨c4, cv, cw⟩ := fin U
    exact ⟨⟨r0.2, r1.2, r2.2, r3.2, c4, cv⟩, cw⟩
  clear fin HS HR W VA VB
  by_cases q : t4.toInt < 0
  · refine Or.inl ⟨q, ?_⟩
    have hm := g.1 q
    rw [hm, own_an1] at f0 f1 f3 f4
    have U0 := own_a1 (t0 &&& (4503599627370495 : Int64)) 4503599627370495 l0.2 (by decide)
    rw [← f0] at U0
    have U1 := own_a2 (t1 &&& (4503599627370495 : Int64)) 17592186044415 u0 l1.2 (by decide) U0.2
    rw [← f1] at U1
    have U2 := own_a3 (t2 &&& (4503599627370495 : Int64)) u1 l2.2 U1.2
    rw [← f2] at U2
    have U3 := own_a2 (t3 &&& (4503599627370495 : Int64)) 68719476736 u2 l3.2 (by decide) U2.2
    rw [← f3] at U3
    have U4 := own_a4 t4 281474976645120 u3 T4.2 (by decide) U3.2
    rw [← f4] at U4
    exact own_W2 _ _ _ _ _ 4503599627370495 17592186044415 68719476736 281474976645120 _ _ _ _ _ _ _ _ _ U0.1 U1.1 U2.1 U3.1 U4 r0.1 r1.1 r2.1 r3.1
  · refine Or.inr ⟨Int.not_lt.mp q, ?_⟩
    have hm := g.2 (Int.not_lt.mp q)
    rw [hm, own_an0] at f0 f1 f3 f4
    have U0 := own_a1 (t0 &&& (4503599627370495 : Int64)) 0 l0.2 (by decide)
    rw [← f0] at U0
    have U1 := own_a2 (t1 &&& (4503599627370495 : Int64)) 0 u0 l1.2 (by decide) U0.2
    rw [← f1] at U1
    have U2 := own_a3 (t2 &&& (4503599627370495 : Int64)) u1 l2.2 U1.2
    rw [← f2] at U2
    have U3 := own_a2 (t3 &&& (4503599627370495 : Int64)) 0 u2 l3.2 (by decide) U2.2
    rw [← f3] at U3
    have U4 := own_a4 t4 0 u3 T4.2 (by decide) U3.2
    rw [← f4] at U4
    exact (own_W2 _ _ _ _ _ 0 0 0 0 _ _ _ _ _ _ _ _ _ U0.1 U1.1 U2.1 U3.1 U4 r0.1 r1.1 r2.1 r3.1).trans (Int.add_zero _)
theorem own_uniq (x0 x1 x2 x3 x4 y0 y1 y2 y3 y4 : Int) (h : x0 + 4503599627370496 * x1 + 20282409603651670423947251286016 * x2 + 91343852333181432387730302044767688728495783936 * x3 + 411376139330301510538742295639337626245683966408394965837152256 * x4 = y0 + 4503599627370496 * y1 + 20282409603651670423947251286016 * y2 + 91343852333181432387730302044767688728495783936 * y3 + 411376139330301510538742295639337626245683966408394965837152256 * y4) (x_0 : 0 ≤ x0 ∧ x0 < 4503599627370496) (x_1 : 0 ≤ x1 ∧ x1 < 4503599627370496) (x_2 : 0 ≤ x2 ∧ x2 < 4503599627370496) (x_3 : 0 ≤ x3 ∧ x3 < 4503599627370496) (y_0 : 0 ≤ y0 ∧ y0 < 4503599627370496) (y_1 : 0 ≤ y1 ∧ y1 < 4503599627370496) (y_2 : 0 ≤ y2 ∧ y2 < 4503599627370496) (y_3 : 0 ≤ y3 ∧ y3 < 4503599627370496) : x0 = y0 ∧ x1 = y1 ∧ x2 = y2 ∧ x3 = y3 ∧ x4 = y4 := by
  have e0 : x0 = y0 := by omega
  subst e0
  have e1 : x1 = y1 := by omega
  subst e1
  have e2 : x2 = y2 := by omega
  subst e2
  have e3 : x3 = y3 := by omega
  subst e3
  exact ⟨rfl, rfl, rfl, rfl, by omega⟩
theorem own_eq7 {x0 x1 x2 x3 x4 y0 y1 y2 y3 y4 : Int64} (h0 : x0 = y0) (h1 : x1 = y1) (h2 : x2 = y2) (h3 : x3 = y3) (h4 : x4 = y4) : ¬ f7_0 x0 x1 x2 x3 x4 y0 y1 y2 y3 y4 = (0 : Int32) := by
  subst h0 h1 h2 h3 h4
  unfold f7_0
  rw [if_pos (by simp)]
  decide

theorem own_fin2 (vC vR vB S t4 R s4 : Int) (hC : 0 ≤ vC ∧ vC < 115792089210356248762697446949407573530086143415290314195533631308867097853951) (W : vR + vB = S + 411376139330301510538742295639337626245683966408394965837152256 * t4) (hS : 0 ≤ S ∧ S < 411376139330301510538742295639337626245683966408394965837152256) (hR : 0 ≤ R ∧ R < 411376139330301510538742295639337626245683966408394965837152256) (U : R + 411376139330301510538742295639337626245683966408394965837152256 * s4 = S + 411376139330301510538742295639337626245683966408394965837152256 * t4 - 115792089210356248762697446949407573530086143415290314195533631308867097853951) (hv : vR = vC - vB ∨ vR = vC - vB + 115792089210356248762697446949407573530086143415290314195533631308867097853951) : (s4 < 0 ∧ S + 411376139330301510538742295639337626245683966408394965837152256 * t4 = vC) ∨ (0 ≤ s4 ∧ R + 411376139330301510538742295639337626245683966408394965837152256 * s4 = vC) := by
  rcases hv with hv | hv <;> omega
theorem own_main2 {C0 C1 C2 C3 C4 A0 A1 A2 A3 A4 B0 B1 B2 B3 B4 t0 t1 t2 t3 t4 s0 s1 s2 s3 s4 m2 : Int64} (Hc : own_R C0 C1 C2 C3 C4) (Hb : own_R B0 B1 B2 B3 B4) (Hr : own_R A0 A1 A2 A3 A4 ∧ (own_v A0 A1 A2 A3 A4 = own_v C0 C1 C2 C3 C4 - own_v B0 B1 B2 B3 B4 ∨ own_v A0 A1 A2 A3 A4 = own_v C0 C1 C2 C3 C4 - own_v B0 B1 B2 B3 B4 + 115792089210356248762697446949407573530086143415290314195533631308867097853951)) (E : own_E5 A0 A1 A2 A3 A4 B0 B1 B2 B3 B4 t0 t1 t2 t3 t4) (G : own_E6 (t0 &&& (4503599627370495 : Int64)) (t1 &&& (4503599627370495 : Int64)) (t2 &&& (4503599627370495 : Int64)) (t3 &&& (4503599627370495 : Int64)) t4 s0 s1 s2 s3 s4 m2) : ¬ f7_0 (((t0 &&& (4503599627370495 : Int64)) &&& m2) ||| ((s0 &&& (4503599627370495 : Int64)) &&& (m2 ^^^ (-1 : Int64)))) (((t1 &&& (4503599627370495 : Int64)) &&& m2) ||| ((s1 &&& (4503599627370495 : Int64)) &&& (m2 ^^^ (-1 : Int64)))) (((t2 &&& (4503599627370495 : Int64)) &&& m2) ||| ((s2 &&& (4503599627370495 : Int64)) &&& (m2 ^^^ (-1 : Int64)))) (((t3 &&& (4503599627370495 : Int64)) &&& m2) ||| ((s3 &&& (4503599627370495 : Int64)) &&& (m2 ^^^ (-1 : Int64)))) ((t4 &&& m2) ||| (s4 &&& (m2 ^^^ (-1 : Int64)))) C0 C1 C2 C3 C4 = (0 : Int32) := by
  have VC := own_vR Hc
  obtain ⟨e0, e1, e2, e3, e4⟩ := E
  obtain ⟨f0, f1, f2, f3, f4, fm⟩ := G
  obtain ⟨c0, c1, c2, c3, c4, -⟩ := Hc
  obtain ⟨b0, b1, b2, b3, b4, -⟩ := Hb
  obtain ⟨⟨a0, a1, a2, a3, a4, -⟩, hv⟩ := Hr
  have T0 := own_a1 A0 B0 a0 b0
  rw [← e0] at T0
  have T1 := own_a2 A1 B1 t0 a1 b1 T0.2
  rw [← e1] at T1
  have T2 := own_a2 A2 B2 t1 a2 b2 T1.2
  rw [← e2] at T2
  have T3 := own_a2 A3 B3 t2 a3 b3 T2.2
  rw [← e3] at T3
  have T4 := own_a2 A4 B4 t3 (own_w48 a4) (own_w48 b4) T3.2
  rw [← e4] at T4
  have l0 := own_l t0
  have l1 := own_l t1
  have l2 := own_l t2
  have l3 := own_l t3
  have W : own_v A0 A1 A2 A3 A4 + own_v B0 B1 B2 B3 B4 = ((t0 &&& (4503599627370495 : Int64)).toInt + 4503599627370496 * (t1 &&& (4503599627370495 : Int64)).toInt + 20282409603651670423947251286016 * (t2 &&& (4503599627370495 : Int64)).toInt + 91343852333181432387730302044767688728495783936 * (t3 &&& (4503599627370495 : Int64)).toInt) + 411376139330301510538742295639337626245683966408394965837152256 * t4.toInt := own_W3 _ _ _ _ _ _ _ _ _ _ _ _ _ _ _ _ _ _ _ T0.1 T1.1 T2.1 T3.1 T4.1 l0.1 l1.1 l2.1 l3.1
  have U0 := own_s1 (t0 &&& (4503599627370495 : Int64)) 4503599627370495 l0.2 (by decide)
  rw [← f0] at U0
  have U1 := own_s2 (t1 &&& (4503599627370495 : Int64)) 17592186044415 s0 l1.2 (by decide) U0.2
  rw [← f1] at U1
  have U2 := own_a3 (t2 &&& (4503599627370495 : Int64)) s1 l2.2 U1.2
  rw [← f2] at U2
  have U3 := own_s2 (t3 &&& (4503599627370495 : Int64)) 68719476736 s2 l3.2 (by decide) U2.2
  rw [← f3] at U3
  have U4 := own_s4 t4 281474976645120 s3 T4.2 (by decide) U3.2
  rw [← f4] at U4
  have r0 := own_l s0
  have r1 := own_l s1
  have r2 := own_l s2
  have r3 := own_l s3
  have U := own_W4 _ _ _ _ _ _ _ _ _ _ _ _ _ _ U0.1 U1.1 U2.1 U3.1 U4.1 r0.1 r1.1 r2.1 r3.1
  have fin := own_fin2 _ _ _ _ _ _ _ VC W (own_small _ _ _ _ l0.2 l1.2 l2.2 l3.2) (own_small _ _ _ _ r0.2 r1.2 r2.2 r3.2) U hv
  have g := own_sg s4 (Int.le_trans (by decide) U4.2.1) (Int.le_trans U4.2.2 (by decide))
  rw [← fm] at g
  have x1 : ((-1 : Int64) ^^^ (-1 : Int64)) = 0 := by decide
  have x0 : ((0 : Int64) ^^^ (-1 : Int64)) = -1 := by decide
  rcases fin with ⟨q, hf⟩ | ⟨q, hf⟩
  · have hm := g.1 q
    rw [hm, x1]
    simp only [own_an1, own_an0, Int64.or_zero]
    obtain ⟨w0, w1, w2, w3, w4⟩ := own_uniq _ _ _ _ t4.toInt C0.toInt C1.toInt C2.toInt C3.toInt C4.toInt hf l0.2 l1.2 l2.2 l3.2 c0 c1 c2 c3
    exact own_eq7 (Int64.toInt_inj.mp w0) (Int64.toInt_inj.mp w1) (Int64.toInt_inj.mp w2) (Int64.toInt_inj.mp w3) (Int64.toInt_inj.mp w4)
  · have hm := g.2 q
    rw [hm, x0]
    simp only [own_an1, own_an0, Int64.zero_or]
    obtain ⟨w0, w1, w2, w3, w4⟩ := own_uniq _ _ _ _ s4.toInt C0.toInt C1.toInt C2.toInt C3.toInt C4.toInt hf r0.2 r1.2 r2.2 r3.2 c0 c1 c2 c3
    exact own_eq7 (Int64.toInt_inj.mp w0) (Int64.toInt_inj.mp w1) (Int64.toInt_inj.mp w2) (Int64.toInt_inj.mp w3) (Int64.toInt_inj.mp w4)

def own_Q0 : Option Value → Heap → Prop := fun v _ => v = some (.int 1) ∧ True
theorem pd_1 : parseMethodDescriptor "([J)Z" = some ⟨[(.array .long)], some .boolean⟩ := by decide +kernel
theorem pd_2 : parseMethodDescriptor "(JJJJI)J" = some ⟨[.long, .long, .long, .long, .int], some .long⟩ := by decide +kernel
theorem pd_3 : parseMethodDescriptor "([J[J[J)V" = some ⟨[(.array .long), (.array .long), (.array .long)], none⟩ := by decide +kernel
theorem pd_4 : parseMethodDescriptor "([J[J)Z" = some ⟨[(.array .long), (.array .long)], some .boolean⟩ := by decide +kernel
theorem ef_0 (m : MethodId) (q0 : Int64) (q1 : Int64) (q2 : Int64) (q3 : Int64) (q4 : Int64) (q5 : Int64) : entryFrame m #[(.long q0), (.long q1), (.long q2), (.long q3), (.long q4), (.long q5)] maxLocals = mkF m 0 #[.val (.long q0), .second, .val (.long q1), .second, .val (.long q2), .second, .val (.long q3), .second, .val (.long q4), .second, .val (.long q5), .second, .unset, .unset, .unset, .unset, .unset, .unset, .unset, .unset, .unset, .unset, .unset] [] := by first | (simp [entryFrame, mkF, argsToLocals, Value.category, maxLocals]; done) | rfl
set_option maxRecDepth 65536 in
set_option maxHeartbeats 40000000 in
theorem rm0 (l : Launch) (Z : State) (a0 : Array Value) (hw : ∀ d ∈ tables_1, d.before a0 Z = true) (q0 q1 q2 q3 q4 q5 : Int64) (h0 : Heap) (n0 : Nat) (Z0 : n0 ≤ h0.size) : own_Con tables_1 l Z x code maxLocals ret room_1 n0 #[(.long q0), (.long q1), (.long q2), (.long q3), (.long q4), (.long q5)] h0 own_Q0 := by
  refine own_body (plainFor_of_name (by first | (simp [plainName, overriddenIn]; done) | decide +kernel)) (fun m => mkF m 0 #[.val (.long q0), .second, .val (.long q1), .second, .val (.long q2), .second, .val (.long q3), .second, .val (.long q4), .second, .val (.long q5), .second, .unset, .unset, .unset, .unset, .unset, .unset, .unset, .unset, .unset, .unset, .unset] []) (fun m => ef_0 m q0 q1 q2 q3 q4 q5) ?_
  intro p e s m below meth c s₁ hx hby hml hown hnm hZ hret hlk X0 e0 N0
  have hml : c.maxLocals = 23 := hml
  have hown : s.vm.findClass "com/example/linkwell/linkwell/cards/P256FieldSubPinLaw" = some m.cls := hown
  have hret : meth.sig.returnType = some .boolean := hret
  refine own_go (T' := s₁) (g' := (mkF m 1 #[.val (.long q0), .second, .val (.long q1), .second, .val (.long q2), .second, .val (.long q3), .second, .val (.long q4), .second, .val (.long q5), .second, .unset, .unset, .unset, .unset, .unset, .unset, .unset, .unset, .unset, .unset, .unset] [(.int (5 : Int32))])) (fun t k => ?_) ?_
  · show Steps p.tables e below (s₁.setTop (mkF m 0 #[.val (.long q0), .second, .val (.long q1), .second, .val (.long q2), .second, .val (.long q3), .second, .val (.long q4), .second, .val (.long q5), .second, .unset, .unset, .unset, .unset, .unset, .unset, .unset, .unset, .unset, .unset, .unset] [])) t
    refine XS.iconst X0.here hx rfl (hb hby at_0) ?_
    show Steps p.tables e below (s₁.setTop (mkF m 1 #[.val (.long q0), .second, .val (.long q1), .second, .val (.long q2), .second, .val (.long q3), .second, .val (.long q4), .second, .val (.long q5), .second, .unset, .unset, .unset, .unset, .unset, .unset, .unset, .unset, .unset, .unset, .unset] [(.int (5 : Int32))])) _
    exact k
  obtain ⟨T1, h1, k1, b1, g1, X1, e1, E1, A1, st1⟩ := own_new X0 hx hZ (hw _ (List.mem_of_getElem? (i := 0) rfl)) e0 (g := (mkF m 1 #[.val (.long q0), .second, .val (.long q1), .second, .val (.long q2), .second, .val (.long q3), .second, .val (.long q4), .second, .val (.long q5), .second, .unset, .unset, .unset, .unset, .unset, .unset, .unset, .unset, .unset, .unset, .unset] [(.int (5 : Int32))])) rfl (hb hby at_1) rfl (by decide) (cap := 5) (by decide) (by decide) (by decide) (by decide)
  have ga_b1 : n0 ≤ b1 := Nat.le_trans Z0 (Nat.le_of_eq g1.symm)
  have sz_1 := Nat.le_trans Z0 E1.1
  have V_b1_1 : Arv Z h1 b1 k1 .long (5 : Int32) [(.long (0 : Int64)), (.long (0 : Int64)), (.long (0 : Int64)), (.long (0 : Int64)), (.long (0 : Int64))] (.long (0 : Int64)) := A1.pad (pad_rep [] (.long (0 : Int64)) 5)
  refine own_go (T' := T1) (g' := (mkF m 3 #[.val (.long q0), .second, .val (.long q1), .second, .val (.long q2), .second, .val (.long q3), .second, .val (.long q4), .second, .val (.long q5), .second, .unset, .unset, .unset, .unset, .unset, .unset, .unset, .unset, .unset, .unset, .unset] [(.ref b1)])) st1 ?_
  refine own_go (T' := T1) (g' := (mkF m 10 #[.val (.long q0), .second, .val (.long q1), .second, .val (.long q2), .second, .val (.long q3), .second, .val (.long q4), .second, .val (.long q5), .second, .unset, .unset, .unset, .unset, .unset, .unset, .unset, .unset, .unset, .unset, .unset] [(.long (q0 &&& (4503599627370495 : Int64))), (.int (0 : Int32)), (.ref b1), (.ref b1)])) (fun t k => ?_) ?_
  · show Steps p.tables e below (T1.setTop (mkF m 3 #[.val (.long q0), .second, .val (.long q1), .second, .val (.long q2), .second, .val (.long q3), .second, .val (.long q4), .second, .val (.long q5), .second, .unset, .unset, .unset, .unset, .unset, .unset, .unset, .unset, .unset, .unset, .unset] [(.ref b1)])) t
    refine XS.dup X1.here hx rfl (hb hby at_3) rfl rfl ?_
    show Steps p.tables e below (T1.setTop (mkF m 4 #[.val (.long q0), .second, .val (.long q1), .second, .val (.long q2), .second, .val (.long q3), .second, .val (.long q4), .second, .val (.long q5), .second, .unset, .unset, .unset, .unset, .unset, .unset, .unset, .unset, .unset, .unset, .unset] [(.ref b1), (.ref b1)])) _
    refine XS.iconst X1.here hx rfl (hb hby at_4) ?_
    show Steps p.tables e below (T1.setTop (mkF m 5 #[.val (.long q0), .second, .val (.long q1), .second, .val (.long q2), .second, .val (.long q3), .second, .val (.long q4), .second, .val (.long q5), .second, .unset, .unset, .unset, .unset, .unset, .unset, .unset, .unset, .unset, .unset, .unset] [(.int (0 : Int32)), (.ref b1), (.ref b1)])) _
    refine XS.lloadN X1.here hx rfl (hb hby at_5) rfl ?_
    show Steps p.tables e below (T1.setTop (mkF m 6 #[.val (.long q0), .second, .val (.long q1), .second, .val (.long q2), .second, .val (.long q3), .second, .val (.long q4), .second, .val (.long q5), .second, .unset, .unset, .unset, .unset, .unset, .unset, .unset, .unset, .unset, .unset, .unset] [(.long q0), (.int (0 : Int32)), (.ref b1), (.ref b1)])) _
    refine X1.ldc2Long hx hown (mvT hZ (hw _ (List.mem_of_getElem? (i := 1) rfl))) (g := (mkF m 6 #[.val (.long q0), .second, .val (.long q1), .second, .val (.long q2), .second, .val (.long q3), .second, .val (.long q4), .second, .val (.long q5), .second, .unset, .unset, .unset, .unset, .unset, .unset, .unset, .unset, .unset, .unset, .unset] [(.long q0), (.int (0 : Int32)), (.ref b1), (.ref b1)])) rfl (hb hby at_6) _ ?_
    show Steps p.tables e below (T1.setTop (mkF m 9 #[.val (.long q0), .second, .val (.long q1), .second, .val (.long q2), .second, .val (.long q3), .second, .val (.long q4), .second, .val (.long q5), .second, .unset, .unset, .unset, .unset, .unset, .unset, .unset, .unset, .unset, .unset, .unset] [(.long (4503599627370495 : Int64)), (.long q0), (.int (0 : Int32)), (.ref b1), (.ref b1)])) _
    refine XS.land X1.here hx rfl (hb hby at_9) rfl ?_
    show Steps p.tables e below (T1.setTop (mkF m 10 #[.val (.long q0), .second, .val (.long q1), .second, .val (.long q2), .second, .val (.long q3), .second, .val (.long q4), .second, .val (.long q5), .second, .unset, .unset, .unset, .unset, .unset, .unset, .unset, .unset, .unset, .unset, .unset] [(.long (q0 &&& (4503599627370495 : Int64))), (.int (0 : Int32)), (.ref b1), (.ref b1)])) _
    exact k
  obtain ⟨x0, h_x0⟩ : ∃ z : Int64, z = (q0 &&& (4503599627370495 : Int64)) := ⟨_, rfl⟩
  rw [← h_x0]
  obtain ⟨T2, h2, L2, X2, N2, e2, W2, Y2, st2⟩ := own_stJ X1 hx hZ e1 V_b1_1 (j := (0 : Int32)) (by decide) 0 rfl (Nat.le_of_ble_eq_true rfl) N0 ga_b1 (g := (mkF m 10 #[.val (.long q0), .second, .val (.long q1), .second, .val (.long q2), .second, .val (.long q3), .second, .val (.long q4), .second, .val (.long q5), .second, .unset, .unset, .unset, .unset, .unset, .unset, .unset, .unset, .unset, .unset, .unset] [(.long x0), (.int (0 : Int32)), (.ref b1), (.ref b1)])) rfl rfl (hb hby at_10)
  have V_b1_2 : Arv Z h2 b1 k1 .long (5 : Int32) [(.long x0), (.long (0 : Int64)), (.long (0 : Int64)), (.long (0 : Int64)), (.long (0 : Int64))] (.long (0 : Int64)) := Y2
  have sz_2 := Nat.le_trans sz_1 (Nat.le_of_eq (Wr.size W2).symm)
  refine own_go (T' := T2) (g' := (mkF m 11 #[.val (.long q0), .second, .val (.long q1), .second, .val (.long q2), .second, .val (.long q3), .second, .val (.long q4), .second, .val (.long q5), .second, .unset, .unset, .unset, .unset, .unset, .unset, .unset, .unset, .unset, .unset, .unset] [(.ref b1)])) st2 ?_
  refine own_go (T' := T2) (g' := (mkF m 18 #[.val (.long q0), .second, .val (.long q1), .second, .val (.long q2), .second, .val (.long q3), .second, .val (.long q4), .second, .val (.long q5), .second, .unset, .unset, .unset, .unset, .unset, .unset, .unset, .unset, .unset, .unset, .unset] [(.long (q1 &&& (4503599627370495 : Int64))), (.int (1 : Int32)), (.ref b1), (.ref b1)])) (fun t k => ?_) ?_
  · show Steps p.tables e below (T2.setTop (mkF m 11 #[.val (.long q0), .second, .val (.long q1), .second, .val (.long q2), .second, .val (.long q3), .second, .val (.long q4), .second, .val (.long q5), .second, .unset, .unset, .unset, .unset, .unset, .unset, .unset, .unset, .unset, .unset, .unset] [(.ref b1)])) t
    refine XS.dup X2.here hx rfl (hb hby at_11) rfl rfl ?_
    show Steps p.tables e below (T2.setTop (mkF m 12 #[.val (.long q0), .second, .val (.long q1), .second, .val (.long q2), .second, .val (.long q3), .second, .val (.long q4), .second, .val (.long q5), .second, .unset, .unset, .unset, .unset, .unset, .unset, .unset, .unset, .unset, .unset, .unset] [(.ref b1), (.ref b1)])) _
    refine XS.iconst X2.here hx rfl (hb hby at_12) ?_
    show Steps p.tables e below (T2.setTop (mkF m 13 #[.val (.long q0), .second, .val (.long q1), .second, .val (.long q2), .second, .val (.long q3), .second, .val (.long q4), .second, .val (.long q5), .second, .unset, .unset, .unset, .unset, .unset, .unset, .unset, .unset, .unset, .unset, .unset] [(.int (1 : Int32)), (.ref b1), (.ref b1)])) _
    refine XS.lloadN X2.here hx rfl (hb hby at_13) rfl ?_
    show Steps p.tables e below (T2.setTop (mkF m 14 #[.val (.long q0), .second, .val (.long q1), .second, .val (.long q2), .second, .val (.long q3), .second, .val (.long q4), .second, .val (.long q5), .second, .unset, .unset, .unset, .unset, .unset, .unset, .unset, .unset, .unset, .unset, .unset] [(.long q1), (.int (1 : Int32)), (.ref b1), (.ref b1)])) _
    refine X2.ldc2Long hx hown (mvT hZ (hw _ (List.mem_of_getElem? (i := 1) rfl))) (g := (mkF m 14 #[.val (.long q0), .second, .val (.long q1), .second, .val (.long q2), .second, .val (.long q3), .second, .val (.long q4), .second, .val (.long q5), .second, .unset, .unset, .unset, .unset, .unset, .unset, .unset, .unset, .unset, .unset, .unset] [(.long q1), (.int (1 : Int32)), (.ref b1), (.ref b1)])) rfl (hb hby at_14) _ ?_
    show Steps p.tables e below (T2.setTop (mkF m 17 #[.val (.long q0), .second, .val (.long q1), .second, .val (.long q2), .second, .val (.long q3), .second, .val (.long q4), .second, .val (.long q5), .second, .unset, .unset, .unset, .unset, .unset, .unset, .unset, .unset, .unset, .unset, .unset] [(.long (4503599627370495 : Int64)), (.long q1), (.int (1 : Int32)), (.ref b1), (.ref b1)])) _
    refine XS.land X2.here hx rfl (hb hby at_17) rfl ?_
    show Steps p.tables e below (T2.setTop (mkF m 18 #[.val (.long q0), .second, .val (.long q1), .second, .val (.long q2), .second, .val (.long q3), .second, .val (.long q4), .second, .val (.long q5), .second, .unset, .unset, .unset, .unset, .unset, .unset, .unset, .unset, .unset, .unset, .unset] [(.long (q1 &&& (4503599627370495 : Int64))), (.int (1 : Int32)), (.ref b1), (.ref b1)])) _
    exact k
  obtain ⟨x1, h_x1⟩ : ∃ z : Int64, z = (q1 &&& (4503599627370495 : Int64)) := ⟨_, rfl⟩
  rw [← h_x1]
  obtain ⟨T3, h3, L3, X3, N3, e3, W3, Y3, st3⟩ := own_stJ X2 hx hZ e2 V_b1_2 (j := (1 : Int32)) (by decide) 1 rfl (Nat.le_of_ble_eq_true rfl) N2 ga_b1 (g := (mkF m 18 #[.val (.long q0), .second, .val (.long q1), .second, .val (.long q2), .second, .val (.long q3), .second, .val (.long q4), .second, .val (.long q5), .second, .unset, .unset, .unset, .unset, .unset, .unset, .unset, .unset, .unset, .unset, .unset] [(.long x1), (.int (1 : Int32)), (.ref b1), (.ref b1)])) rfl rfl (hb hby at_18)
  have V_b1_3 : Arv Z h3 b1 k1 .long (5 : Int32) [(.long x0), (.long x1), (.long (0 : Int64)), (.long (0 : Int64)), (.long (0 : Int64))] (.long (0 : Int64)) := Y3
  have sz_3 := Nat.le_trans sz_2 (Nat.le_of_eq (Wr.size W3).symm)
  refine own_go (T' := T3) (g' := (mkF m 19 #[.val (.long q0), .second, .val (.long q1), .second, .val (.long q2), .second, .val (.long q3), .second, .val (.long q4), .second, .val (.long q5), .second, .unset, .unset, .unset, .unset, .unset, .unset, .unset, .unset, .unset, .unset, .unset] [(.ref b1)])) st3 ?_
  refine own_go (T' := T3) (g' := (mkF m 27 #[.val (.long q0), .second, .val (.long q1), .second, .val (.long q2), .second, .val (.long q3), .second, .val (.long q4), .second, .val (.long q5), .second, .unset, .unset, .unset, .unset, .unset, .unset, .unset, .unset, .unset, .unset, .unset] [(.long (q2 &&& (4503599627370495 : Int64))), (.int (2 : Int32)), (.ref b1), (.ref b1)])) (fun t k => ?_) ?_
  · show Steps p.tables e below (T3.setTop (mkF m 19 #[.val (.long q0), .second, .val (.long q1), .second, .val (.long q2), .second, .val (.long q3), .second, .val (.long q4), .second, .val (.long q5), .second, .unset, .unset, .unset, .unset, .unset, .unset, .unset, .unset, .unset, .unset, .unset] [(.ref b1)])) t
    refine XS.dup X3.here hx rfl (hb hby at_19) rfl rfl ?_
    show Steps p.tables e below (T3.setTop (mkF m 20 #[.val (.long q0), .second, .val (.long q1), .second, .val (.long q2), .second, .val (.long q3), .second, .val (.long q4), .second, .val (.long q5), .second, .unset, .unset, .unset, .unset, .unset, .unset, .unset, .unset, .unset, .unset, .unset] [(.ref b1), (.ref b1)])) _
    refine XS.iconst X3.here hx rfl (hb hby at_20) ?_
    show Steps p.tables e below (T3.setTop (mkF m 21 #[.val (.long q0), .second, .val (.long q1), .second, .val (.long q2), .second, .val (.long q3), .second, .val (.long q4), .second, .val (.long q5), .second, .unset, .unset, .unset, .unset, .unset, .unset, .unset, .unset, .unset, .unset, .unset] [(.int (2 : Int32)), (.ref b1), (.ref b1)])) _
    refine XS.lload X3.here hx rfl (hb hby at_21) rfl ?_
    show Steps p.tables e below (T3.setTop (mkF m 23 #[.val (.long q0), .second, .val (.long q1), .second, .val (.long q2), .second, .val (.long q3), .second, .val (.long q4), .second, .val (.long q5), .second, .unset, .unset, .unset, .unset, .unset, .unset, .unset, .unset, .unset, .unset, .unset] [(.long q2), (.int (2 : Int32)), (.ref b1), (.ref b1)])) _
    refine X3.ldc2Long hx hown (mvT hZ (hw _ (List.mem_of_getElem? (i := 1) rfl))) (g := (mkF m 23 #[.val (.long q0), .second, .val (.long q1), .second, .val (.long q2), .second, .val (.long q3), .second, .val (.long q4), .second, .val (.long q5), .second, .unset, .unset, .unset, .unset, .unset, .unset, .unset, .unset, .unset, .unset, .unset] [(.long q2), (.int (2 : Int32)), (.ref b1), (.ref b1)])) rfl (hb hby at_23) _ ?_
    show Steps p.tables e below (T3.setTop (mkF m 26 #[.val (.long q0), .second, .val (.long q1), .second, .val (.long q2), .second, .val (.long q3), .second, .val (.long q4), .second, .val (.long q5), .second, .unset, .unset, .unset, .unset, .unset, .unset, .unset, .unset, .unset, .unset, .unset] [(.long (4503599627370495 : Int64)), (.long q2), (.int (2 : Int32)), (.ref b1), (.ref b1)])) _
    refine XS.land X3.here hx rfl (hb hby at_26) rfl ?_
    show Steps p.tables e below (T3.setTop (mkF m 27 #[.val (.long q0), .second, .val (.long q1), .second, .val (.long q2), .second, .val (.long q3), .second, .val (.long q4), .second, .val (.long q5), .second, .unset, .unset, .unset, .unset, .unset, .unset, .unset, .unset, .unset, .unset, .unset] [(.long (q2 &&& (4503599627370495 : Int64))), (.int (2 : Int32)), (.ref b1), (.ref b1)])) _
    exact k
  obtain ⟨x2, h_x2⟩ : ∃ z : Int64, z = (q2 &&& (4503599627370495 : Int64)) := ⟨_, rfl⟩
  rw [← h_x2]
  obtain ⟨T4, h4, L4, X4, N4, e4, W4, Y4, st4⟩ := own_stJ X3 hx hZ e3 V_b1_3 (j := (2 : Int32)) (by decide) 2 rfl (Nat.le_of_ble_eq_true rfl) N3 ga_b1 (g := (mkF m 27 #[.val (.long q0), .second, .val (.long q1), .second, .val (.long q2), .second, .val (.long q3), .second, .val (.long q4), .second, .val (.long q5), .second, .unset, .unset, .unset, .unset, .unset, .unset, .unset, .unset, .unset, .unset, .unset] [(.long x2), (.int (2 : Int32)), (.ref b1), (.ref b1)])) rfl rfl (hb hby at_27)
  have V_b1_4 : Arv Z h4 b1 k1 .long (5 : Int32) [(.long x0), (.long x1), (.long x2), (.long (0 : Int64)), (.long (0 : Int64))] (.long (0 : Int64)) := Y4
  have sz_4 := Nat.le_trans sz_3 (Nat.le_of_eq (Wr.size W4).symm)
  refine own_go (T' := T4) (g' := (mkF m 28 #[.val (.long q0), .second, .val (.long q1), .second, .val (.long q2), .second, .val (.long q3), .second, .val (.long q4), .second, .val (.long q5), .second, .unset, .unset, .unset, .unset, .unset, .unset, .unset, .unset, .unset, .unset, .unset] [(.ref b1)])) st4 ?_
  refine own_go (T' := T4) (g' := (mkF m 36 #[.val (.long q0), .second, .val (.long q1), .second, .val (.long q2), .second, .val (.long q3), .second, .val (.long q4), .second, .val (.long q5), .second, .unset, .unset, .unset, .unset, .unset, .unset, .unset, .unset, .unset, .unset, .unset] [(.long (q3 &&& (4503599627370495 : Int64))), (.int (3 : Int32)), (.ref b1), (.ref b1)])) (fun t k => ?_) ?_
  · show Steps p.tables e below (T4.setTop (mkF m 28 #[.val (.long q0), .second, .val (.long q1), .second, .val (.long q2), .second, .val (.long q3), .second, .val (.long q4), .second, .val (.long q5), .second, .unset, .unset, .unset, .unset, .unset, .unset, .unset, .unset, .unset, .unset, .unset] [(.ref b1)])) t
    refine XS.dup X4.here hx rfl (hb hby at_28) rfl rfl ?_
    show Steps p.tables e below (T4.setTop (mkF m 29 #[.val (.long q0), .second, .val (.long q1), .second, .val (.long q2), .second, .val (.long q3), .second, .val (.long q4), .second, .val (.long q5), .second, .unset, .unset, .unset, .unset, .unset, .unset, .unset, .unset, .unset, .unset, .unset] [(.ref b1), (.ref b1)])) _
    refine XS.iconst X4.here hx rfl (hb hby at_29) ?_
    show Steps p.tables e below (T4.setTop (mkF m 30 #[.val (.long q0), .second, .val (.long q1), .second, .val (.long q2), .second, .val (.long q3), .second, .val (.long q4), .second, .val (.long q5), .second, .unset, .unset, .unset, .unset, .unset, .unset, .unset, .unset, .unset, .unset, .unset] [(.int (3 : Int32)), (.ref b1), (.ref b1)])) _
    refine XS.lload X4.here hx rfl (hb hby at_30) rfl ?_
    show Steps p.tables e below (T4.setTop (mkF m 32 #[.val (.long q0), .second, .val (.long q1), .second, .val (.long q2), .second, .val (.long q3), .second, .val (.long q4), .second, .val (.long q5), .second, .unset, .unset, .unset, .unset, .unset, .unset, .unset, .unset, .unset, .unset, .unset] [(.long q3), (.int (3 : Int32)), (.ref b1), (.ref b1)])) _
    refine X4.ldc2Long hx hown (mvT hZ (hw _ (List.mem_of_getElem? (i := 1) rfl))) (g := (mkF m 32 #[.val (.long q0), .second, .val (.long q1), .second, .val (.long q2), .second, .val (.long q3), .second, .val (.long q4), .second, .val (.long q5), .second, .unset, .unset, .unset, .unset, .unset, .unset, .unset, .unset, .unset, .unset, .unset] [(.long q3), (.int (3 : Int32)), (.ref b1), (.ref b1)])) rfl (hb hby at_32) _ ?_
    show Steps p.tables e below (T4.setTop (mkF m 35 #[.val (.long q0), .second, .val (.long q1), .second, .val (.long q2), .second, .val (.long q3), .second, .val (.long q4), .second, .val (.long q5), .second, .unset, .unset, .unset, .unset, .unset, .unset, .unset, .unset, .unset, .unset, .unset] [(.long (4503599627370495 : Int64)), (.long q3), (.int (3 : Int32)), (.ref b1), (.ref b1)])) _
    refine XS.land X4.here hx rfl (hb hby at_35) rfl ?_
    show Steps p.tables e below (T4.setTop (mkF m 36 #[.val (.long q0), .second, .val (.long q1), .second, .val (.long q2), .second, .val (.long q3), .second, .val (.long q4), .second, .val (.long q5), .second, .unset, .unset, .unset, .unset, .unset, .unset, .unset, .unset, .unset, .unset, .unset] [(.long (q3 &&& (4503599627370495 : Int64))), (.int (3 : Int32)), (.ref b1), (.ref b1)])) _
    exact k
  obtain ⟨x3, h_x3⟩ : ∃ z : Int64, z = (q3 &&& (4503599627370495 : Int64)) := ⟨_, rfl⟩
  rw [← h_x3]
  obtain ⟨T5, h5, L5, X5, N5, e5, W5, Y5, st5⟩ := own_stJ X4 hx hZ e4 V_b1_4 (j := (3 : Int32)) (by decide) 3 rfl (Nat.le_of_ble_eq_true rfl) N4 ga_b1 (g := (mkF m 36 #[.val (.long q0), .second, .val (.long q1), .second, .val (.long q2), .second, .val (.long q3), .second, .val (.long q4), .second, .val (.long q5), .second, .unset, .unset, .unset, .unset, .unset, .unset, .unset, .unset, .unset, .unset, .unset] [(.long x3), (.int (3 : Int32)), (.ref b1), (.ref b1)])) rfl rfl (hb hby at_36)
  have V_b1_5 : Arv Z h5 b1 k1 .long (5 : Int32) [(.long x0), (.long x1), (.long x2), (.long x3), (.long (0 : Int64))] (.long (0 : Int64)) := Y5
  have sz_5 := Nat.le_trans sz_4 (Nat.le_of_eq (Wr.size W5).symm)
  refine own_go (T' := T5) (g' := (mkF m 37 #[.val (.long q0), .second, .val (.long q1), .second, .val (.long q2), .second, .val (.long q3), .second, .val (.long q4), .second, .val (.long q5), .second, .unset, .unset, .unset, .unset, .unset, .unset, .unset, .unset, .unset, .unset, .unset] [(.ref b1)])) st5 ?_
  refine own_go (T' := T5) (g' := (mkF m 45 #[.val (.long q0), .second, .val (.long q1), .second, .val (.long q2), .second, .val (.long q3), .second, .val (.long q4), .second, .val (.long q5), .second, .unset, .unset, .unset, .unset, .unset, .unset, .unset, .unset, .unset, .unset, .unset] [(.long (q4 &&& (281474976710655 : Int64))), (.int (4 : Int32)), (.ref b1), (.ref b1)])) (fun t k => ?_) ?_
  · show Steps p.tables e below (T5.setTop (mkF m 37 #[.val (.long q0), .second, .val (.long q1), .second, .val (.long q2), .second, .val (.long q3), .second, .val (.long q4), .second, .val (.long q5), .second, .unset, .unset, .unset, .unset, .unset, .unset, .unset, .unset, .unset, .unset, .unset] [(.ref b1)])) t
    refine XS.dup X5.here hx rfl (hb hby at_37) rfl rfl ?_
    show Steps p.tables e below (T5.setTop (mkF m 38 #[.val (.long q0), .second, .val (.long q1), .second, .val (.long q2), .second, .val (.long q3), .second, .val (.long q4), .second, .val (.long q5), .second, .unset, .unset, .unset, .unset, .unset, .unset, .unset, .unset, .unset, .unset, .unset] [(.ref b1), (.ref b1)])) _
    refine XS.iconst X5.here hx rfl (hb hby at_38) ?_
    show Steps p.tables e below (T5.setTop (mkF m 39 #[.val (.long q0), .second, .val (.long q1), .second, .val (.long q2), .second, .val (.long q3), .second, .val (.long q4), .second, .val (.long q5), .second, .unset, .unset, .unset, .unset, .unset, .unset, .unset, .unset, .unset, .unset, .unset] [(.int (4 : Int32)), (.ref b1), (.ref b1)])) _
    refine XS.lload X5.here hx rfl (hb hby at_39) rfl ?_
    show Steps p.tables e below (T5.setTop (mkF m 41 #[.val (.long q0), .second, .val (.long q1), .second, .val (.long q2), .second, .val (.long q3), .second, .val (.long q4), .second, .val (.long q5), .second, .unset, .unset, .unset, .unset, .unset, .unset, .unset, .unset, .unset, .unset, .unset] [(.long q4), (.int (4 : Int32)), (.ref b1), (.ref b1)])) _
    refine X5.ldc2Long hx hown (mvT hZ (hw _ (List.mem_of_getElem? (i := 2) rfl))) (g := (mkF m 41 #[.val (.long q0), .second, .val (.long q1), .second, .val (.long q2), .second, .val (.long q3), .second, .val (.long q4), .second, .val (.long q5), .second, .unset, .unset, .unset, .unset, .unset, .unset, .unset, .unset, .unset, .unset, .unset] [(.long q4), (.int (4 : Int32)), (.ref b1), (.ref b1)])) rfl (hb hby at_41) _ ?_
    show Steps p.tables e below (T5.setTop (mkF m 44 #[.val (.long q0), .second, .val (.long q1), .second, .val (.long q2), .second, .val (.long q3), .second, .val (.long q4), .second, .val (.long q5), .second, .unset, .unset, .unset, .unset, .unset, .unset, .unset, .unset, .unset, .unset, .unset] [(.long (281474976710655 : Int64)), (.long q4), (.int (4 : Int32)), (.ref b1), (.ref b1)])) _
    refine XS.land X5.here hx rfl (hb hby at_44) rfl ?_
    show Steps p.tables e below (T5.setTop (mkF m 45 #[.val (.long q0), .second, .val (.long q1), .second, .val (.long q2), .second, .val (.long q3), .second, .val (.long q4), .second, .val (.long q5), .second, .unset, .unset, .unset, .unset, .unset, .unset, .unset, .unset, .unset, .unset, .unset] [(.long (q4 &&& (281474976710655 : Int64))), (.int (4 : Int32)), (.ref b1), (.ref b1)])) _
    exact k
  obtain ⟨x4, h_x4⟩ : ∃ z : Int64, z = (q4 &&& (281474976710655 : Int64)) := ⟨_, rfl⟩
  rw [← h_x4]
  obtain ⟨T6, h6, L6, X6, N6, e6, W6, Y6, st6⟩ := own_stJ X5 hx hZ e5 V_b1_5 (j := (4 : Int32)) (by decide) 4 rfl (Nat.le_of_ble_eq_true rfl) N5 ga_b1 (g := (mkF m 45 #[.val (.long q0), .second, .val (.long q1), .second, .val (.long q2), .second, .val (.long q3), .second, .val (.long q4), .second, .val (.long q5), .second, .unset, .unset, .unset, .unset, .unset, .unset, .unset, .unset, .unset, .unset, .unset] [(.long x4), (.int (4 : Int32)), (.ref b1), (.ref b1)])) rfl rfl (hb hby at_45)
  have V_b1_6 : Arv Z h6 b1 k1 .long (5 : Int32) [(.long x0), (.long x1), (.long x2), (.long x3), (.long x4)] (.long (0 : Int64)) := Y6
  have sz_6 := Nat.le_trans sz_5 (Nat.le_of_eq (Wr.size W6).symm)
  refine own_go (T' := T6) (g' := (mkF m 46 #[.val (.long q0), .second, .val (.long q1), .second, .val (.long q2), .second, .val (.long q3), .second, .val (.long q4), .second, .val (.long q5), .second, .unset, .unset, .unset, .unset, .unset, .unset, .unset, .unset, .unset, .unset, .unset] [(.ref b1)])) st6 ?_
  refine own_go (T' := T6) (g' := (mkF m 50 #[.val (.long q0), .second, .val (.long q1), .second, .val (.long q2), .second, .val (.long q3), .second, .val (.long q4), .second, .val (.long q5), .second, .val (.ref b1), .unset, .unset, .unset, .unset, .unset, .unset, .unset, .unset, .unset, .unset] [(.ref b1)])) (fun t k => ?_) ?_
  · show Steps p.tables e below (T6.setTop (mkF m 46 #[.val (.long q0), .second, .val (.long q1), .second, .val (.long q2), .second, .val (.long q3), .second, .val (.long q4), .second, .val (.long q5), .second, .unset, .unset, .unset, .unset, .unset, .unset, .unset, .unset, .unset, .unset, .unset] [(.ref b1)])) t
    refine XS.astore X6.here hx rfl (hb hby at_46) rfl rfl (l' := #[.val (.long q0), .second, .val (.long q1), .second, .val (.long q2), .second, .val (.long q3), .second, .val (.long q4), .second, .val (.long q5), .second, .val (.ref b1), .unset, .unset, .unset, .unset, .unset, .unset, .unset, .unset, .unset, .unset]) rfl ?_
    show Steps p.tables e below (T6.setTop (mkF m 48 #[.val (.long q0), .second, .val (.long q1), .second, .val (.long q2), .second, .val (.long q3), .second, .val (.long q4), .second, .val (.long q5), .second, .val (.ref b1), .unset, .unset, .unset, .unset, .unset, .unset, .unset, .unset, .unset, .unset] [])) _
    refine XS.aload X6.here hx rfl (hb hby at_48) rfl rfl ?_
    show Steps p.tables e below (T6.setTop (mkF m 50 #[.val (.long q0), .second, .val (.long q1), .second, .val (.long q2), .second, .val (.long q3), .second, .val (.long q4), .second, .val (.long q5), .second, .val (.ref b1), .unset, .unset, .unset, .unset, .unset, .unset, .unset, .unset, .unset, .unset] [(.ref b1)])) _
    exact k
  obtain ⟨_, T7, L7, X7, N7, ⟨rfl, e7⟩, st7⟩ := own_callS X6 hx hZ hown (hw _ (List.mem_of_getElem? (i := 3) rfl)) (hw _ (List.mem_of_getElem? (i := 4) rfl)) (hw _ (List.mem_of_getElem? (i := 5) rfl)) (hw _ (List.mem_of_getElem? (i := 6) rfl)) (by decide) (argsL := [(.ref b1)]) (rest := []) (rm1 l Z a0 hw b1 k1 x0 x1 x2 x3 x4 h6 n0 V_b1_6) (W := 0) (by decide) (by decide) (g := (mkF m 50 #[.val (.long q0), .second, .val (.long q1), .second, .val (.long q2), .second, .val (.long q3), .second, .val (.long q4), .second, .val (.long q5), .second, .val (.ref b1), .unset, .unset, .unset, .unset, .unset, .unset, .unset, .unset, .unset, .unset] [(.ref b1)])) rfl (by rw [hml]; rfl) pd_1 rfl rfl (by show 2 * 0 + _ ≤ _; exact Nat.le_of_eq rfl) (hb hby at_50) e6 (by decide) (by decide) N6
  refine own_go (T' := T7) (g' := (mkF m 53 #[.val (.long q0), .second, .val (.long q1), .second, .val (.long q2), .second, .val (.long q3), .second, .val (.long q4), .second, .val (.long q5), .second, .val (.ref b1), .unset, .unset, .unset, .unset, .unset, .unset, .unset, .unset, .unset, .unset] [(.int (f1_0 x0 x1 x2 x3 x4))])) st7 ?_
  suffices w8 : ∀ (T8 : State) (L8 : List Loc) (h8 : Heap) (X8 : Stand p l e room_1 s m #[(.long q0), (.long q1), (.long q2), (.long q3), (.long q4), (.long q5)] below meth c T8 L8 1 5) (e8 : T8.heap = h8) (N8 : Fr n0 L8) (sz_8 : n0 ≤ h8.size) (y8 : Int64) (h_y8 : y8 = (if (f1_0 x0 x1 x2 x3 x4) = (0 : Int32) then (x4 &&& (-140737488355329 : Int64)) else x4)) (V_b1_8 : Arv Z h8 b1 k1 .long (5 : Int32) [(.long x0), (.long x1), (.long x2), (.long x3), (.long y8)] (.long (0 : Int64))), own_Ends p e below s n0 room_1.cells room_1.slots T8 (mkF m 68 #[.val (.long q0), .second, .val (.long q1), .second, .val (.long q2), .second, .val (.long q3), .second, .val (.long q4), .second, .val (.long q5), .second, .val (.ref b1), .unset, .unset, .unset, .unset, .unset, .unset, .unset, .unset, .unset, .unset] []) own_Q0 by
    by_cases hc53_9 : (f1_0 x0 x1 x2 x3 x4) = (0 : Int32)
    · refine own_go (T' := T7) (g' := (mkF m 56 #[.val (.long q0), .second, .val (.long q1), .second, .val (.long q2), .second, .val (.long q3), .second, .val (.long q4), .second, .val (.long q5), .second, .val (.ref b1), .unset, .unset, .unset, .unset, .unset, .unset, .unset, .unset, .unset, .unset] [])) (fun t k => ?_) ?_
      · refine XS.ifNo X7.here hx rfl (hb hby at_53) rfl ((if0 _ _).trans (teq hc53_9).2) ?_
        exact k
      refine own_go (T' := T7) (g' := (mkF m 67 #[.val (.long q0), .second, .val (.long q1), .second, .val (.long q2), .second, .val (.long q3), .second, .val (.long q4), .second, .val (.long q5), .second, .val (.ref b1), .unset, .unset, .unset, .unset, .unset, .unset, .unset, .unset, .unset, .unset] [(.long (x4 &&& (-140737488355329 : Int64))), (.int (4 : Int32)), (.ref b1)])) (fun t k => ?_) ?_
      · show Steps p.tables e below (T7.setTop (mkF m 56 #[.val (.long q0), .second, .val (.long q1), .second, .val (.long q2), .second, .val (.long q3), .second, .val (.long q4), .second, .val (.long q5), .second, .val (.ref b1), .unset, .unset, .unset, .unset, .unset, .unset, .unset, .unset, .unset, .unset] [])) t
        refine XS.aload X7.here hx rfl (hb hby at_56) rfl rfl ?_
        show Steps p.tables e below (T7.setTop (mkF m 58 #[.val (.long q0), .second, .val (.long q1), .second, .val (.long q2), .second, .val (.long q3), .second, .val (.long q4), .second, .val (.long q5), .second, .val (.ref b1), .unset, .unset, .unset, .unset, .unset, .unset, .unset, .unset, .unset, .unset] [(.ref b1)])) _
        refine XS.iconst X7.here hx rfl (hb hby at_58) ?_
        show Steps p.tables e below (T7.setTop (mkF m 59 #[.val (.long q0), .second, .val (.long q1), .second, .val (.long q2), .second, .val (.long q3), .second, .val (.long q4), .second, .val (.long q5), .second, .val (.ref b1), .unset, .unset, .unset, .unset, .unset, .unset, .unset, .unset, .unset, .unset] [(.int (4 : Int32)), (.ref b1)])) _
        refine XS.aload X7.here hx rfl (hb hby at_59) rfl rfl ?_
        show Steps p.tables e below (T7.setTop (mkF m 61 #[.val (.long q0), .second, .val (.long q1), .second, .val (.long q2), .second, .val (.long q3), .second, .val (.long q4), .second, .val (.long q5), .second, .val (.ref b1), .unset, .unset, .unset, .unset, .unset, .unset, .unset, .unset, .unset, .unset] [(.ref b1), (.int (4 : Int32)), (.ref b1)])) _
        refine XS.iconst X7.here hx rfl (hb hby at_61) ?_
        show Steps p.tables e below (T7.setTop (mkF m 62 #[.val (.long q0), .second, .val (.long q1), .second, .val (.long q2), .second, .val (.long q3), .second, .val (.long q4), .second, .val (.long q5), .second, .val (.ref b1), .unset, .unset, .unset, .unset, .unset, .unset, .unset, .unset, .unset, .unset] [(.int (4 : Int32)), (.ref b1), (.int (4 : Int32)), (.ref b1)])) _
        refine own_ldJ X7 hx hZ e7 V_b1_6 (j := (4 : Int32)) (by decide) (v := (.long x4)) rfl (g := (mkF m 62 #[.val (.long q0), .second, .val (.long q1), .second, .val (.long q2), .second, .val (.long q3), .second, .val (.long q4), .second, .val (.long q5), .second, .val (.ref b1), .unset, .unset, .unset, .unset, .unset, .unset, .unset, .unset, .unset, .unset] [(.int (4 : Int32)), (.ref b1), (.int (4 : Int32)), (.ref b1)])) rfl rfl (hb hby at_62) _ ?_
        show Steps p.tables e below (T7.setTop (mkF m 63 #[.val (.long q0), .second, .val (.long q1), .second, .val (.long q2), .second, .val (.long q3), .second, .val (.long q4), .second, .val (.long q5), .second, .val (.ref b1), .unset, .unset, .unset, .unset, .unset, .unset, .unset, .unset, .unset, .unset] [(.long x4), (.int (4 : Int32)), (.ref b1)])) _
        refine X7.ldc2Long hx hown (mvT hZ (hw _ (List.mem_of_getElem? (i := 35) rfl))) (g := (mkF m 63 #[.val (.long q0), .second, .val (.long q1), .second, .val (.long q2), .second, .val (.long q3), .second, .val (.long q4), .second, .val (.long q5), .second, .val (.ref b1), .unset, .unset, .unset, .unset, .unset, .unset, .unset, .unset, .unset, .unset] [(.long x4), (.int (4 : Int32)), (.ref b1)])) rfl (hb hby at_63) _ ?_
        show Steps p.tables e below (T7.setTop (mkF m 66 #[.val (.long q0), .second, .val (.long q1), .second, .val (.long q2), .second, .val (.long q3), .second, .val (.long q4), .second, .val (.long q5), .second, .val (.ref b1), .unset, .unset, .unset, .unset, .unset, .unset, .unset, .unset, .unset, .unset] [(.long (-140737488355329 : Int64)), (.long x4), (.int (4 : Int32)), (.ref b1)])) _
        refine XS.land X7.here hx rfl (hb hby at_66) rfl ?_
        show Steps p.tables e below (T7.setTop (mkF m 67 #[.val (.long q0), .second, .val (.long q1), .second, .val (.long q2), .second, .val (.long q3), .second, .val (.long q4), .second, .val (.long q5), .second, .val (.ref b1), .unset, .unset, .unset, .unset, .unset, .unset, .unset, .unset, .unset, .unset] [(.long (x4 &&& (-140737488355329 : Int64))), (.int (4 : Int32)), (.ref b1)])) _
        exact k
      obtain ⟨T10, h10, L10, X10, N10, e10, W10, Y10, st10⟩ := own_stJ X7 hx hZ e7 V_b1_6 (j := (4 : Int32)) (by decide) 4 rfl (Nat.le_of_ble_eq_true rfl) N7 ga_b1 (g := (mkF m 67 #[.val (.long q0), .second, .val (.long q1), .second, .val (.long q2), .second, .val (.long q3), .second, .val (.long q4), .second, .val (.long q5), .second, .val (.ref b1), .unset, .unset, .unset, .unset, .unset, .unset, .unset, .unset, .unset, .unset] [(.long (x4 &&& (-140737488355329 : Int64))), (.int (4 : Int32)), (.ref b1)])) rfl rfl (hb hby at_67)
      have V_b1_10 : Arv Z h10 b1 k1 .long (5 : Int32) [(.long x0), (.long x1), (.long x2), (.long x3), (.long (x4 &&& (-140737488355329 : Int64)))] (.long (0 : Int64)) := Y10
      have sz_10 := Nat.le_trans sz_6 (Nat.le_of_eq (Wr.size W10).symm)
      refine own_go (T' := T10) (g' := (mkF m 68 #[.val (.long q0), .second, .val (.long q1), .second, .val (.long q2), .second, .val (.long q3), .second, .val (.long q4), .second, .val (.long q5), .second, .val (.ref b1), .unset, .unset, .unset, .unset, .unset, .unset, .unset, .unset, .unset, .unset] [])) st10 ?_
      exact w8 _ _ _ X10 e10 N10 sz_10 _ (by rw [if_pos hc53_9]) V_b1_10
    · refine own_go (T' := T7) (g' := (mkF m 68 #[.val (.long q0), .second, .val (.long q1), .second, .val (.long q2), .second, .val (.long q3), .second, .val (.long q4), .second, .val (.long q5), .second, .val (.ref b1), .unset, .unset, .unset, .unset, .unset, .unset, .unset, .unset, .unset, .unset] [])) (fun t k => ?_) ?_
      · refine XS.ifYes X7.here hx rfl (pc0 := 53) (pc' := 68) rfl (hb hby at_53) rfl ((if0 _ _).trans (feq hc53_9).2) (by decide) (by decide) ?_
        exact k
      exact w8 _ _ _ X7 e7 N7 sz_6 _ (by rw [if_neg hc53_9]) V_b1_6
  intro T8 L8 h8 X8 e8 N8 sz_8 y8 h_y8 V_b1_8
  refine own_go (T' := T8) (g' := (mkF m 79 #[.val (.long q0), .second, .val (.long q1), .second, .val (.long q2), .second, .val (.long q3), .second, .val (.long q4), .second, .val (.long q5), .second, .val (.ref b1), .val (.long (((q5.toUInt64 >>> ((10 : Int32) &&& 0x3f).toInt64.toUInt64).toInt64) &&& (4503599627370495 : Int64))), .second, .unset, .unset, .unset, .unset, .unset, .unset, .unset, .unset] [])) (fun t k => ?_) ?_
  · show Steps p.tables e below (T8.setTop (mkF m 68 #[.val (.long q0), .second, .val (.long q1), .second, .val (.long q2), .second, .val (.long q3), .second, .val (.long q4), .second, .val (.long q5), .second, .val (.ref b1), .unset, .unset, .unset, .unset, .unset, .unset, .unset, .unset, .unset, .unset] [])) t
    refine XS.lload X8.here hx rfl (hb hby at_68) rfl ?_
    show Steps p.tables e below (T8.setTop (mkF m 70 #[.val (.long q0), .second, .val (.long q1), .second, .val (.long q2), .second, .val (.long q3), .second, .val (.long q4), .second, .val (.long q5), .second, .val (.ref b1), .unset, .unset, .unset, .unset, .unset, .unset, .unset, .unset, .unset, .unset] [(.long q5)])) _
    refine XS.bipush X8.here hx rfl (hb hby at_70) ?_
    show Steps p.tables e below (T8.setTop (mkF m 72 #[.val (.long q0), .second, .val (.long q1), .second, .val (.long q2), .second, .val (.long q3), .second, .val (.long q4), .second, .val (.long q5), .second, .val (.ref b1), .unset, .unset, .unset, .unset, .unset, .unset, .unset, .unset, .unset, .unset] [(.int (10 : Int32)), (.long q5)])) _
    refine XS.lushr X8.here hx rfl (hb hby at_72) rfl ?_
    show Steps p.tables e below (T8.setTop (mkF m 73 #[.val (.long q0), .second, .val (.long q1), .second, .val (.long q2), .second, .val (.long q3), .second, .val (.long q4), .second, .val (.long q5), .second, .val (.ref b1), .unset, .unset, .unset, .unset, .unset, .unset, .unset, .unset, .unset, .unset] [(.long ((q5.toUInt64 >>> ((10 : Int32) &&& 0x3f).toInt64.toUInt64).toInt64))])) _
    refine X8.ldc2Long hx hown (mvT hZ (hw _ (List.mem_of_getElem? (i := 1) rfl))) (g := (mkF m 73 #[.val (.long q0), .second, .val (.long q1), .second, .val (.long q2), .second, .val (.long q3), .second, .val (.long q4), .second, .val (.long q5), .second, .val (.ref b1), .unset, .unset, .unset, .unset, .unset, .unset, .unset, .unset, .unset, .unset] [(.long ((q5.toUInt64 >>> ((10 : Int32) &&& 0x3f).toInt64.toUInt64).toInt64))])) rfl (hb hby at_73) _ ?_
    show Steps p.tables e below (T8.setTop (mkF m 76 #[.val (.long q0), .second, .val (.long q1), .second, .val (.long q2), .second, .val (.long q3), .second, .val (.long q4), .second, .val (.long q5), .second, .val (.ref b1), .unset, .unset, .unset, .unset, .unset, .unset, .unset, .unset, .unset, .unset] [(.long (4503599627370495 : Int64)), (.long ((q5.toUInt64 >>> ((10 : Int32) &&& 0x3f).toInt64.toUInt64).toInt64))])) _
    refine XS.land X8.here hx rfl (hb hby at_76) rfl ?_
    show Steps p.tables e below (T8.setTop (mkF m 77 #[.val (.long q0), .second, .val (.long q1), .second, .val (.long q2), .second, .val (.long q3), .second, .val (.long q4), .second, .val (.long q5), .second, .val (.ref b1), .unset, .unset, .unset, .unset, .unset, .unset, .unset, .unset, .unset, .unset] [(.long (((q5.toUInt64 >>> ((10 : Int32) &&& 0x3f).toInt64.toUInt64).toInt64) &&& (4503599627370495 : Int64)))])) _
    refine XS.lstore X8.here hx rfl (hb hby at_77) rfl (l' := #[.val (.long q0), .second, .val (.long q1), .second, .val (.long q2), .second, .val (.long q3), .second, .val (.long q4), .second, .val (.long q5), .second, .val (.ref b1), .val (.long (((q5.toUInt64 >>> ((10 : Int32) &&& 0x3f).toInt64.toUInt64).toInt64) &&& (4503599627370495 : Int64))), .second, .unset, .unset, .unset, .unset, .unset, .unset, .unset, .unset]) rfl ?_
    show Steps p.tables e below (T8.setTop (mkF m 79 #[.val (.long q0), .second, .val (.long q1), .second, .val (.long q2), .second, .val (.long q3), .second, .val (.long q4), .second, .val (.long q5), .second, .val (.ref b1), .val (.long (((q5.toUInt64 >>> ((10 : Int32) &&& 0x3f).toInt64.toUInt64).toInt64) &&& (4503599627370495 : Int64))), .second, .unset, .unset, .unset, .unset, .unset, .unset, .unset, .unset] [])) _
    exact k
  obtain ⟨mix, h_mix⟩ : ∃ z : Int64, z = (((q5.toUInt64 >>> ((10 : Int32) &&& 0x3f).toInt64.toUInt64).toInt64) &&& (4503599627370495 : Int64)) := ⟨_, rfl⟩
  rw [← h_mix]
  refine own_go (T' := T8) (g' := (mkF m 80 #[.val (.long q0), .second, .val (.long q1), .second, .val (.long q2), .second, .val (.long q3), .second, .val (.long q4), .second, .val (.long q5), .second, .val (.ref b1), .val (.long mix), .second, .unset, .unset, .unset, .unset, .unset, .unset, .unset, .unset] [(.int (5 : Int32))])) (fun t k => ?_) ?_
  · show Steps p.tables e below (T8.setTop (mkF m 79 #[.val (.long q0), .second, .val (.long q1), .second, .val (.long q2), .second, .val (.long q3), .second, .val (.long q4), .second, .val (.long q5), .second, .val (.ref b1), .val (.long mix), .second, .unset, .unset, .unset, .unset, .unset, .unset, .unset, .unset] [])) t
    refine XS.iconst X8.here hx rfl (hb hby at_79) ?_
    show Steps p.tables e below (T8.setTop (mkF m 80 #[.val (.long q0), .second, .val (.long q1), .second, .val (.long q2), .second, .val (.long q3), .second, .val (.long q4), .second, .val (.long q5), .second, .val (.ref b1), .val (.long mix), .second, .unset, .unset, .unset, .unset, .unset, .unset, .unset, .unset] [(.int (5 : Int32))])) _
    exact k
  obtain ⟨T11, h11, k11, b11, g11, X11, e11, E11, A11, st11⟩ := own_new X8 hx hZ (hw _ (List.mem_of_getElem? (i := 0) rfl)) e8 (g := (mkF m 80 #[.val (.long q0), .second, .val (.long q1), .second, .val (.long q2), .second, .val (.long q3), .second, .val (.long q4), .second, .val (.long q5), .second, .val (.ref b1), .val (.long mix), .second, .unset, .unset, .unset, .unset, .unset, .unset, .unset, .unset] [(.int (5 : Int32))])) rfl (hb hby at_80) rfl (by decide) (cap := 5) (by decide) (by decide) (by decide) (by decide)
  have lt_b1_b11 : b1 < b11 := Nat.lt_of_lt_of_le V_b1_8.lt (Nat.le_of_eq g11.symm)
  have ga_b11 : n0 ≤ b11 := Nat.le_trans sz_8 (Nat.le_of_eq g11.symm)
  have sz_11 := Nat.le_trans sz_8 E11.1
  have V_b1_11 := V_b1_8.ext E11
  have V_b11_11 : Arv Z h11 b11 k11 .long (5 : Int32) [(.long (0 : Int64)), (.long (0 : Int64)), (.long (0 : Int64)), (.long (0 : Int64)), (.long (0 : Int64))] (.long (0 : Int64)) := A11.pad (pad_rep [] (.long (0 : Int64)) 5)
  refine own_go (T' := T11) (g' := (mkF m 82 #[.val (.long q0), .second, .val (.long q1), .second, .val (.long q2), .second, .val (.long q3), .second, .val (.long q4), .second, .val (.long q5), .second, .val (.ref b1), .val (.long mix), .second, .unset, .unset, .unset, .unset, .unset, .unset, .unset, .unset] [(.ref b11)])) st11 ?_
  refine own_go (T' := T11) (g' := (mkF m 101 #[.val (.long q0), .second, .val (.long q1), .second, .val (.long q2), .second, .val (.long q3), .second, .val (.long q4), .second, .val (.long q5), .second, .val (.ref b1), .val (.long mix), .second, .unset, .unset, .unset, .unset, .unset, .unset, .unset, .unset] [(.int ((q5 &&& (3 : Int64)).toInt32)), (.long mix), (.long (4503599627370495 : Int64)), (.long q0), (.long x0), (.int (0 : Int32)), (.ref b11), (.ref b11)])) (fun t k => ?_) ?_
  · show Steps p.tables e below (T11.setTop (mkF m 82 #[.val (.long q0), .second, .val (.long q1), .second, .val (.long q2), .second, .val (.long q3), .second, .val (.long q4), .second, .val (.long q5), .second, .val (.ref b1), .val (.long mix), .second, .unset, .unset, .unset, .unset, .unset, .unset, .unset, .unset] [(.ref b11)])) t
    refine XS.dup X11.here hx rfl (hb hby at_82) rfl rfl ?_
    show Steps p.tables e below (T11.setTop (mkF m 83 #[.val (.long q0), .second, .val (.long q1), .second, .val (.long q2), .second, .val (.long q3), .second, .val (.long q4), .second, .val (.long q5), .second, .val (.ref b1), .val (.long mix), .second, .unset, .unset, .unset, .unset, .unset, .unset, .unset, .unset] [(.ref b11), (.ref b11)])) _
    refine XS.iconst X11.here hx rfl (hb hby at_83) ?_
    show Steps p.tables e below (T11.setTop (mkF m 84 #[.val (.long q0), .second, .val (.long q1), .second, .val (.long q2), .second, .val (.long q3), .second, .val (.long q4), .second, .val (.long q5), .second, .val (.ref b1), .val (.long mix), .second, .unset, .unset, .unset, .unset, .unset, .unset, .unset, .unset] [(.int (0 : Int32)), (.ref b11), (.ref b11)])) _
    refine XS.aload X11.here hx rfl (hb hby at_84) rfl rfl ?_
    show Steps p.tables e below (T11.setTop (mkF m 86 #[.val (.long q0), .second, .val (.long q1), .second, .val (.long q2), .second, .val (.long q3), .second, .val (.long q4), .second, .val (.long q5), .second, .val (.ref b1), .val (.long mix), .second, .unset, .unset, .unset, .unset, .unset, .unset, .unset, .unset] [(.ref b1), (.int (0 : Int32)), (.ref b11), (.ref b11)])) _
    refine XS.iconst X11.here hx rfl (hb hby at_86) ?_
    show Steps p.tables e below (T11.setTop (mkF m 87 #[.val (.long q0), .second, .val (.long q1), .second, .val (.long q2), .second, .val (.long q3), .second, .val (.long q4), .second, .val (.long q5), .second, .val (.ref b1), .val (.long mix), .second, .unset, .unset, .unset, .unset, .unset, .unset, .unset, .unset] [(.int (0 : Int32)), (.ref b1), (.int (0 : Int32)), (.ref b11), (.ref b11)])) _
    refine own_ldJ X11 hx hZ e11 V_b1_11 (j := (0 : Int32)) (by decide) (v := (.long x0)) rfl (g := (mkF m 87 #[.val (.long q0), .second, .val (.long q1), .second, .val (.long q2), .second, .val (.long q3), .second, .val (.long q4), .second, .val (.long q5), .second, .val (.ref b1), .val (.long mix), .second, .unset, .unset, .unset, .unset, .unset, .unset, .unset, .unset] [(.int (0 : Int32)), (.ref b1), (.int (0 : Int32)), (.ref b11), (.ref b11)])) rfl rfl (hb hby at_87) _ ?_
    show Steps p.tables e below (T11.setTop (mkF m 88 #[.val (.long q0), .second, .val (.long q1), .second, .val (.long q2), .second, .val (.long q3), .second, .val (.long q4), .second, .val (.long q5), .second, .val (.ref b1), .val (.long mix), .second, .unset, .unset, .unset, .unset, .unset, .unset, .unset, .unset] [(.long x0), (.int (0 : Int32)), (.ref b11), (.ref b11)])) _
    refine XS.lloadN X11.here hx rfl (hb hby at_88) rfl ?_
    show Steps p.tables e below (T11.setTop (mkF m 89 #[.val (.long q0), .second, .val (.long q1), .second, .val (.long q2), .second, .val (.long q3), .second, .val (.long q4), .second, .val (.long q5), .second, .val (.ref b1), .val (.long mix), .second, .unset, .unset, .unset, .unset, .unset, .unset, .unset, .unset] [(.long q0), (.long x0), (.int (0 : Int32)), (.ref b11), (.ref b11)])) _
    refine X11.ldc2Long hx hown (mvT hZ (hw _ (List.mem_of_getElem? (i := 1) rfl))) (g := (mkF m 89 #[.val (.long q0), .second, .val (.long q1), .second, .val (.long q2), .second, .val (.long q3), .second, .val (.long q4), .second, .val (.long q5), .second, .val (.ref b1), .val (.long mix), .second, .unset, .unset, .unset, .unset, .unset, .unset, .unset, .unset] [(.long q0), (.long x0), (.int (0 : Int32)), (.ref b11), (.ref b11)])) rfl (hb hby at_89) _ ?_
    show Steps p.tables e below (T11.setTop (mkF m 92 #[.val (.long q0), .second, .val (.long q1), .second, .val (.long q2), .second, .val (.long q3), .second, .val (.long q4), .second, .val (.long q5), .second, .val (.ref b1), .val (.long mix), .second, .unset, .unset, .unset, .unset, .unset, .unset, .unset, .unset] [(.long (4503599627370495 : Int64)), (.long q0), (.long x0), (.int (0 : Int32)), (.ref b11), (.ref b11)])) _
    refine XS.lload X11.here hx rfl (hb hby at_92) rfl ?_
    show Steps p.tables e below (T11.setTop (mkF m 94 #[.val (.long q0), .second, .val (.long q1), .second, .val (.long q2), .second, .val (.long q3), .second, .val (.long q4), .second, .val (.long q5), .second, .val (.ref b1), .val (.long mix), .second, .unset, .unset, .unset, .unset, .unset, .unset, .unset, .unset] [(.long mix), (.long (4503599627370495 : Int64)), (.long q0), (.long x0), (.int (0 : Int32)), (.ref b11), (.ref b11)])) _
    refine XS.lload X11.here hx rfl (hb hby at_94) rfl ?_
    show Steps p.tables e below (T11.setTop (mkF m 96 #[.val (.long q0), .second, .val (.long q1), .second, .val (.long q2), .second, .val (.long q3), .second, .val (.long q4), .second, .val (.long q5), .second, .val (.ref b1), .val (.long mix), .second, .unset, .unset, .unset, .unset, .unset, .unset, .unset, .unset] [(.long q5), (.long mix), (.long (4503599627370495 : Int64)), (.long q0), (.long x0), (.int (0 : Int32)), (.ref b11), (.ref b11)])) _
    refine X11.ldc2Long hx hown (mvT hZ (hw _ (List.mem_of_getElem? (i := 8) rfl))) (g := (mkF m 96 #[.val (.long q0), .second, .val (.long q1), .second, .val (.long q2), .second, .val (.long q3), .second, .val (.long q4), .second, .val (.long q5), .second, .val (.ref b1), .val (.long mix), .second, .unset, .unset, .unset, .unset, .unset, .unset, .unset, .unset] [(.long q5), (.long mix), (.long (4503599627370495 : Int64)), (.long q0), (.long x0), (.int (0 : Int32)), (.ref b11), (.ref b11)])) rfl (hb hby at_96) _ ?_
    show Steps p.tables e below (T11.setTop (mkF m 99 #[.val (.long q0), .second, .val (.long q1), .second, .val (.long q2), .second, .val (.long q3), .second, .val (.long q4), .second, .val (.long q5), .second, .val (.ref b1), .val (.long mix), .second, .unset, .unset, .unset, .unset, .unset, .unset, .unset, .unset] [(.long (3 : Int64)), (.long q5), (.long mix), (.long (4503599627370495 : Int64)), (.long q0), (.long x0), (.int (0 : Int32)), (.ref b11), (.ref b11)])) _
    refine XS.land X11.here hx rfl (hb hby at_99) rfl ?_
    show Steps p.tables e below (T11.setTop (mkF m 100 #[.val (.long q0), .second, .val (.long q1), .second, .val (.long q2), .second, .val (.long q3), .second, .val (.long q4), .second, .val (.long q5), .second, .val (.ref b1), .val (.long mix), .second, .unset, .unset, .unset, .unset, .unset, .unset, .unset, .unset] [(.long (q5 &&& (3 : Int64))), (.long mix), (.long (4503599627370495 : Int64)), (.long q0), (.long x0), (.int (0 : Int32)), (.ref b11), (.ref b11)])) _
    refine XS.l2i X11.here hx rfl (hb hby at_100) rfl ?_
    show Steps p.tables e below (T11.setTop (mkF m 101 #[.val (.long q0), .second, .val (.long q1), .second, .val (.long q2), .second, .val (.long q3), .second, .val (.long q4), .second, .val (.long q5), .second, .val (.ref b1), .val (.long mix), .second, .unset, .unset, .unset, .unset, .unset, .unset, .unset, .unset] [(.int ((q5 &&& (3 : Int64)).toInt32)), (.long mix), (.long (4503599627370495 : Int64)), (.long q0), (.long x0), (.int (0 : Int32)), (.ref b11), (.ref b11)])) _
    exact k
  obtain ⟨_, T12, L12, X12, N12, ⟨rfl, e12⟩, st12⟩ := own_callS X11 hx hZ hown (hw _ (List.mem_of_getElem? (i := 9) rfl)) (hw _ (List.mem_of_getElem? (i := 10) rfl)) (hw _ (List.mem_of_getElem? (i := 5) rfl)) (hw _ (List.mem_of_getElem? (i := 11) rfl)) (by decide) (argsL := [(.long x0), (.long q0), (.long (4503599627370495 : Int64)), (.long mix), (.int ((q5 &&& (3 : Int64)).toInt32))]) (rest := [(.int (0 : Int32)), (.ref b11), (.ref b11)]) (rm2 l Z a0 hw x0 q0 (4503599627370495 : Int64) mix ((q5 &&& (3 : Int64)).toInt32) h11 n0) (W := 3) (by decide) (by decide) (g := (mkF m 101 #[.val (.long q0), .second, .val (.long q1), .second, .val (.long q2), .second, .val (.long q3), .second, .val (.long q4), .second, .val (.long q5), .second, .val (.ref b1), .val (.long mix), .second, .unset, .unset, .unset, .unset, .unset, .unset, .unset, .unset] [(.int ((q5 &&& (3 : Int64)).toInt32)), (.long mix), (.long (4503599627370495 : Int64)), (.long q0), (.long x0), (.int (0 : Int32)), (.ref b11), (.ref b11)])) rfl (by rw [hml]; rfl) pd_2 rfl rfl (by show 2 * 0 + _ ≤ _; exact Nat.le_of_eq rfl) (hb hby at_101) e11 (by decide) (by decide) N8
  refine own_go (T' := T12) (g' := (mkF m 104 #[.val (.long q0), .second, .val (.long q1), .second, .val (.long q2), .second, .val (.long q3), .second, .val (.long q4), .second, .val (.long q5), .second, .val (.ref b1), .val (.long mix), .second, .unset, .unset, .unset, .unset, .unset, .unset, .unset, .unset] [(.long (f2_0 x0 q0 (4503599627370495 : Int64) mix ((q5 &&& (3 : Int64)).toInt32))), (.int (0 : Int32)), (.ref b11), (.ref b11)])) st12 ?_
  obtain ⟨w0, h_w0⟩ : ∃ z : Int64, z = (f2_0 x0 q0 (4503599627370495 : Int64) mix ((q5 &&& (3 : Int64)).toInt32)) := ⟨_, rfl⟩
  rw [← h_w0]
  obtain ⟨T13, h13, L13, X13, N13, e13, W13, Y13, st13⟩ := own_stJ X12 hx hZ e12 V_b11_11 (j := (0 : Int32)) (by decide) 0 rfl (Nat.le_of_ble_eq_true rfl) N12 ga_b11 (g := (mkF m 104 #[.val (.long q0), .second, .val (.long q1), .second, .val (.long q2), .second, .val (.long q3), .second, .val (.long q4), .second, .val (.long q5), .second, .val (.ref b1), .val (.long mix), .second, .unset, .unset, .unset, .unset, .unset, .unset, .unset, .unset] [(.long w0), (.int (0 : Int32)), (.ref b11), (.ref b11)])) rfl rfl (hb hby at_104)
  have V_b1_13 := V_b1_11.other W13 (Nat.ne_of_lt lt_b1_b11)
  have V_b11_13 : Arv Z h13 b11 k11 .long (5 : Int32) [(.long w0), (.long (0 : Int64)), (.long (0 : Int64)), (.long (0 : Int64)), (.long (0 : Int64))] (.long (0 : Int64)) := Y13
  have sz_13 := Nat.le_trans sz_11 (Nat.le_of_eq (Wr.size W13).symm)
  refine own_go (T' := T13) (g' := (mkF m 105 #[.val (.long q0), .second, .val (.long q1), .second, .val (.long q2), .second, .val (.long q3), .second, .val (.long q4), .second, .val (.long q5), .second, .val (.ref b1), .val (.long mix), .second, .unset, .unset, .unset, .unset, .unset, .unset, .unset, .unset] [(.ref b11)])) st13 ?_
  refine own_go (T' := T13) (g' := (mkF m 126 #[.val (.long q0), .second, .val (.long q1), .second, .val (.long q2), .second, .val (.long q3), .second, .val (.long q4), .second, .val (.long q5), .second, .val (.ref b1), .val (.long mix), .second, .unset, .unset, .unset, .unset, .unset, .unset, .unset, .unset] [(.int ((((q5.toUInt64 >>> ((2 : Int32) &&& 0x3f).toInt64.toUInt64).toInt64) &&& (3 : Int64)).toInt32)), (.long mix), (.long (17592186044415 : Int64)), (.long q1), (.long x1), (.int (1 : Int32)), (.ref b11), (.ref b11)])) (fun t k => ?_) ?_
  · show Steps p.tables e below (T13.setTop (mkF m 105 #[.val (.long q0), .second, .val (.long q1), .second, .val (.long q2), .second, .val (.long q3), .second, .val (.long q4), .second, .val (.long q5), .second, .val (.ref b1), .val (.long mix), .second, .unset, .unset, .unset, .unset, .unset, .unset, .unset, .unset] [(.ref b11)])) t
    refine XS.dup X13.here hx rfl (hb hby at_105) rfl rfl ?_
    show Steps p.tables e below (T13.setTop (mkF m 106 #[.val (.long q0), .second, .val (.long q1), .second, .val (.long q2), .second, .val (.long q3), .second, .val (.long q4), .second, .val (.long q5), .second, .val (.ref b1), .val (.long mix), .second, .unset, .unset, .unset, .unset, .unset, .unset, .unset, .unset] [(.ref b11), (.ref b11)])) _
    refine XS.iconst X13.here hx rfl (hb hby at_106) ?_
    show Steps p.tables e below (T13.setTop (mkF m 107 #[.val (.long q0), .second, .val (.long q1), .second, .val (.long q2), .second, .val (.long q3), .second, .val (.long q4), .second, .val (.long q5), .second, .val (.ref b1), .val (.long mix), .second, .unset, .unset, .unset, .unset, .unset, .unset, .unset, .unset] [(.int (1 : Int32)), (.ref b11), (.ref b11)])) _
    refine XS.aload X13.here hx rfl (hb hby at_107) rfl rfl ?_
    show Steps p.tables e below (T13.setTop (mkF m 109 #[.val (.long q0), .second, .val (.long q1), .second, .val (.long q2), .second, .val (.long q3), .second, .val (.long q4), .second, .val (.long q5), .second, .val (.ref b1), .val (.long mix), .second, .unset, .unset, .unset, .unset, .unset, .unset, .unset, .unset] [(.ref b1), (.int (1 : Int32)), (.ref b11), (.ref b11)])) _
    refine XS.iconst X13.here hx rfl (hb hby at_109) ?_
    show Steps p.tables e below (T13.setTop (mkF m 110 #[.val (.long q0), .second, .val (.long q1), .second, .val (.long q2), .second, .val (.long q3), .second, .val (.long q4), .second, .val (.long q5), .second, .val (.ref b1), .val (.long mix), .second, .unset, .unset, .unset, .unset, .unset, .unset, .unset, .unset] [(.int (1 : Int32)), (.ref b1), (.int (1 : Int32)), (.ref b11), (.ref b11)])) _
    refine own_ldJ X13 hx hZ e13 V_b1_13 (j := (1 : Int32)) (by decide) (v := (.long x1)) rfl (g := (mkF m 110 #[.val (.long q0), .second, .val (.long q1), .second, .val (.long q2), .second, .val (.long q3), .second, .val (.long q4), .second, .val (.long q5), .second, .val (.ref b1), .val (.long mix), .second, .unset, .unset, .unset, .unset, .unset, .unset, .unset, .unset] [(.int (1 : Int32)), (.ref b1), (.int (1 : Int32)), (.ref b11), (.ref b11)])) rfl rfl (hb hby at_110) _ ?_
    show Steps p.tables e below (T13.setTop (mkF m 111 #[.val (.long q0), .second, .val (.long q1), .second, .val (.long q2), .second, .val (.long q3), .second, .val (.long q4), .second, .val (.long q5), .second, .val (.ref b1), .val (.long mix), .second, .unset, .unset, .unset, .unset, .unset, .unset, .unset, .unset] [(.long x1), (.int (1 : Int32)), (.ref b11), (.ref b11)])) _
    refine XS.lloadN X13.here hx rfl (hb hby at_111) rfl ?_
    show Steps p.tables e below (T13.setTop (mkF m 112 #[.val (.long q0), .second, .val (.long q1), .second, .val (.long q2), .second, .val (.long q3), .second, .val (.long q4), .second, .val (.long q5), .second, .val (.ref b1), .val (.long mix), .second, .unset, .unset, .unset, .unset, .unset, .unset, .unset, .unset] [(.long q1), (.long x1), (.int (1 : Int32)), (.ref b11), (.ref b11)])) _
    refine X13.ldc2Long hx hown (mvT hZ (hw _ (List.mem_of_getElem? (i := 12) rfl))) (g := (mkF m 112 #[.val (.long q0), .second, .val (.long q1), .second, .val (.long q2), .second, .val (.long q3), .second, .val (.long q4), .second, .val (.long q5), .second, .val (.ref b1), .val (.long mix), .second, .unset, .unset, .unset, .unset, .unset, .unset, .unset, .unset] [(.long q1), (.long x1), (.int (1 : Int32)), (.ref b11), (.ref b11)])) rfl (hb hby at_112) _ ?_
    show Steps p.tables e below (T13.setTop (mkF m 115 #[.val (.long q0), .second, .val (.long q1), .second, .val (.long q2), .second, .val (.long q3), .second, .val (.long q4), .second, .val (.long q5), .second, .val (.ref b1), .val (.long mix), .second, .unset, .unset, .unset, .unset, .unset, .unset, .unset, .unset] [(.long (17592186044415 : Int64)), (.long q1), (.long x1), (.int (1 : Int32)), (.ref b11), (.ref b11)])) _
    refine XS.lload X13.here hx rfl (hb hby at_115) rfl ?_
    show Steps p.tables e below (T13.setTop (mkF m 117 #[.val (.long q0), .second, .val (.long q1), .second, .val (.long q2), .second, .val (.long q3), .second, .val (.long q4), .second, .val (.long q5), .second, .val (.ref b1), .val (.long mix), .second, .unset, .unset, .unset, .unset, .unset, .unset, .unset, .unset] [(.long mix), (.long (17592186044415 : Int64)), (.long q1), (.long x1), (.int (1 : Int32)), (.ref b11), (.ref b11)])) _
    refine XS.lload X13.here hx rfl (hb hby at_117) rfl ?_
    show Steps p.tables e below (T13.setTop (mkF m 119 #[.val (.long q0), .second, .val (.long q1), .second, .val (.long q2), .second, .val (.long q3), .second, .val (.long q4), .second, .val (.long q5), .second, .val (.ref b1), .val (.long mix), .second, .unset, .unset, .unset, .unset, .unset, .unset, .unset, .unset] [(.long q5), (.long mix), (.long (17592186044415 : Int64)), (.long q1), (.long x1), (.int (1 : Int32)), (.ref b11), (.ref b11)])) _
    refine XS.iconst X13.here hx rfl (hb hby at_119) ?_
    show Steps p.tables e below (T13.setTop (mkF m 120 #[.val (.long q0), .second, .val (.long q1), .second, .val (.long q2), .second, .val (.long q3), .second, .val (.long q4), .second, .val (.long q5), .second, .val (.ref b1), .val (.long mix), .second, .unset, .unset, .unset, .unset, .unset, .unset, .unset, .unset] [(.int (2 : Int32)), (.long q5), (.long mix), (.long (17592186044415 : Int64)), (.long q1), (.long x1), (.int (1 : Int32)), (.ref b11), (.ref b11)])) _
    refine XS.lushr X13.here hx rfl (hb hby at_120) rfl ?_
    show Steps p.tables e below (T13.setTop (mkF m 121 #[.val (.long q0), .second, .val (.long q1), .second, .val (.long q2), .second, .val (.long q3), .second, .val (.long q4), .second, .val (.long q5), .second, .val (.ref b1), .val (.long mix), .second, .unset, .unset, .unset, .unset, .unset, .unset, .unset, .unset] [(.long ((q5.toUInt64 >>> ((2 : Int32) &&& 0x3f).toInt64.toUInt64).toInt64)), (.long mix), (.long (17592186044415 : Int64)), (.long q1), (.long x1), (.int (1 : Int32)), (.ref b11), (.ref b11)])) _
    refine X13.ldc2Long hx hown (mvT hZ (hw _ (List.mem_of_getElem? (i := 8) rfl))) (g := (mkF m 121 #[.val (.long q0), .second, .val (.long q1), .second, .val (.long q2), .second, .val (.long q3), .second, .val (.long q4), .second, .val (.long q5), .second, .val (.ref b1), .val (.long mix), .second, .unset, .unset, .unset, .unset, .unset, .unset, .unset, .unset] [(.long ((q5.toUInt64 >>> ((2 : Int32) &&& 0x3f).toInt64.toUInt64).toInt64)), (.long mix), (.long (17592186044415 : Int64)), (.long q1), (.long x1), (.int (1 : Int32)), (.ref b11), (.ref b11)])) rfl (hb hby at_121) _ ?_
    show Steps p.tables e below (T13.setTop (mkF m 124 #[.val (.long q0), .second, .val (.long q1), .second, .val (.long q2), .second, .val (.long q3), .second, .val (.long q4), .second, .val (.long q5), .second, .val (.ref b1), .val (.long mix), .second, .unset, .unset, .unset, .unset, .unset, .unset, .unset, .unset] [(.long (3 : Int64)), (.long ((q5.toUInt64 >>> ((2 : Int32) &&& 0x3f).toInt64.toUInt64).toInt64)), (.long mix), (.long (17592186044415 : Int64)), (.long q1), (.long x1), (.int (1 : Int32)), (.ref b11), (.ref b11)])) _
    refine XS.land X13.here hx rfl (hb hby at_124) rfl ?_
    show Steps p.tables e below (T13.setTop (mkF m 125 #[.val (.long q0), .second, .val (.long q1), .second, .val (.long q2), .second, .val (.long q3), .second, .val (.long q4), .second, .val (.long q5), .second, .val (.ref b1), .val (.long mix), .second, .unset, .unset, .unset, .unset, .unset, .unset, .unset, .unset] [(.long (((q5.toUInt64 >>> ((2 : Int32) &&& 0x3f).toInt64.toUInt64).toInt64) &&& (3 : Int64))), (.long mix), (.long (17592186044415 : Int64)), (.long q1), (.long x1), (.int (1 : Int32)), (.ref b11), (.ref b11)])) _
    refine XS.l2i X13.here hx rfl (hb hby at_125) rfl ?_
    show Steps p.tables e below (T13.setTop (mkF m 126 #[.val (.long q0), .second, .val (.long q1), .second, .val (.long q2), .second, .val (.long q3), .second, .val (.long q4), .second, .val (.long q5), .second, .val (.ref b1), .val (.long mix), .second, .unset, .unset, .unset, .unset, .unset, .unset, .unset, .unset] [(.int ((((q5.toUInt64 >>> ((2 : Int32) &&& 0x3f).toInt64.toUInt64).toInt64) &&& (3 : Int64)).toInt32)), (.long mix), (.long (17592186044415 : Int64)), (.long q1), (.long x1), (.int (1 : Int32)), (.ref b11), (.ref b11)])) _
    exact k
  obtain ⟨_, T14, L14, X14, N14, ⟨rfl, e14⟩, st14⟩ := own_callS X13 hx hZ hown (hw _ (List.mem_of_getElem? (i := 9) rfl)) (hw _ (List.mem_of_getElem? (i := 10) rfl)) (hw _ (List.mem_of_getElem? (i := 5) rfl)) (hw _ (List.mem_of_getElem? (i := 11) rfl)) (by decide) (argsL := [(.long x1), (.long q1), (.long (17592186044415 : Int64)), (.long mix), (.int ((((q5.toUInt64 >>> ((2 : Int32) &&& 0x3f).toInt64.toUInt64).toInt64) &&& (3 : Int64)).toInt32))]) (rest := [(.int (1 : Int32)), (.ref b11), (.ref b11)]) (rm2 l Z a0 hw x1 q1 (17592186044415 : Int64) mix ((((q5.toUInt64 >>> ((2 : Int32) &&& 0x3f).toInt64.toUInt64).toInt64) &&& (3 : Int64)).toInt32) h13 n0) (W := 3) (by decide) (by decide) (g := (mkF m 126 #[.val (.long q0), .second, .val (.long q1), .second, .val (.long q2), .second, .val (.long q3), .second, .val (.long q4), .second, .val (.long q5), .second, .val (.ref b1), .val (.long mix), .second, .unset, .unset, .unset, .unset, .unset, .unset, .unset, .unset] [(.int ((((q5.toUInt64 >>> ((2 : Int32) &&& 0x3f).toInt64.toUInt64).toInt64) &&& (3 : Int64)).toInt32)), (.long mix), (.long (17592186044415 : Int64)), (.long q1), (.long x1), (.int (1 : Int32)), (.ref b11), (.ref b11)])) rfl (by rw [hml]; rfl) pd_2 rfl rfl (by show 2 * 0 + _ ≤ _; exact Nat.le_of_eq rfl) (hb hby at_126) e13 (by decide) (by decide) N13
  refine own_go (T' := T14) (g' := (mkF m 129 #[.val (.long q0), .second, .val (.long q1), .second, .val (.long q2), .second, .val (.long q3), .second, .val (.long q4), .second, .val (.long q5), .second, .val (.ref b1), .val (.long mix), .second, .unset, .unset, .unset, .unset, .unset, .unset, .unset, .unset] [(.long (f2_0 x1 q1 (17592186044415 : Int64) mix ((((q5.toUInt64 >>> ((2 : Int32) &&& 0x3f).toInt64.toUInt64).toInt64) &&& (3 : Int64)).toInt32))), (.int (1 : Int32)), (.ref b11), (.ref b11)])) st14 ?_
  obtain ⟨w1, h_w1⟩ : ∃ z : Int64, z = (f2_0 x1 q1 (17592186044415 : Int64) mix ((((q5.toUInt64 >>> ((2 : Int32) &&& 0x3f).toInt64.toUInt64).toInt64) &&& (3 : Int64)).toInt32)) := ⟨_, rfl⟩
  rw [← h_w1]
  obtain ⟨T15, h15, L15, X15, N15, e15, W15, Y15, st15⟩ := own_stJ X14 hx hZ e14 V_b11_13 (j := (1 : Int32)) (by decide) 1 rfl (Nat.le_of_ble_eq_true rfl) N14 ga_b11 (g := (mkF m 129 #[.val (.long q0), .second, .val (.long q1), .second, .val (.long q2), .second, .val (.long q3), .second, .val (.long q4), .second, .val (.long q5), .second, .val (.ref b1), .val (.long mix), .second, .unset, .unset, .unset, .unset, .unset, .unset, .unset, .unset] [(.long w1), (.int (1 : Int32)), (.ref b11), (.ref b11)])) rfl rfl (hb hby at_129)
  have V_b1_15 := V_b1_13.other W15 (Nat.ne_of_lt lt_b1_b11)
  have V_b11_15 : Arv Z h15 b11 k11 .long (5 : Int32) [(.long w0), (.long w1), (.long (0 : Int64)), (.long (0 : Int64)), (.long (0 : Int64))] (.long (0 : Int64)) := Y15
  have sz_15 := Nat.le_trans sz_13 (Nat.le_of_eq (Wr.size W15).symm)
  refine own_go (T' := T15) (g' := (mkF m 130 #[.val (.long q0), .second, .val (.long q1), .second, .val (.long q2), .second, .val (.long q3), .second, .val (.long q4), .second, .val (.long q5), .second, .val (.ref b1), .val (.long mix), .second, .unset, .unset, .unset, .unset, .unset, .unset, .unset, .unset] [(.ref b11)])) st15 ?_
  refine own_go (T' := T15) (g' := (mkF m 150 #[.val (.long q0), .second, .val (.long q1), .second, .val (.long q2), .second, .val (.long q3), .second, .val (.long q4), .second, .val (.long q5), .second, .val (.ref b1), .val (.long mix), .second, .unset, .unset, .unset, .unset, .unset, .unset, .unset, .unset] [(.int ((((q5.toUInt64 >>> ((4 : Int32) &&& 0x3f).toInt64.toUInt64).toInt64) &&& (3 : Int64)).toInt32)), (.long mix), (.long (0 : Int64)), (.long q2), (.long x2), (.int (2 : Int32)), (.ref b11), (.ref b11)])) (fun t k => ?_) ?_
  · show Steps p.tables e below (T15.setTop (mkF m 130 #[.val (.long q0), .second, .val (.long q1), .second, .val (.long q2), .second, .val (.long q3), .second, .val (.long q4), .second, .val (.long q5), .second, .val (.ref b1), .val (.long mix), .second, .unset, .unset, .unset, .unset, .unset, .unset, .unset, .unset] [(.ref b11)])) t
    refine XS.dup X15.here hx rfl (hb hby at_130) rfl rfl ?_
    show Steps p.tables e below (T15.setTop (mkF m 131 #[.val (.long q0), .second, .val (.long q1), .second, .val (.long q2), .second, .val (.long q3), .second, .val (.long q4), .second, .val (.long q5), .second, .val (.ref b1), .val (.long mix), .second, .unset, .unset, .unset, .unset, .unset, .unset, .unset, .unset] [(.ref b11), (.ref b11)])) _
    refine XS.iconst X15.here hx rfl (hb hby at_131) ?_
    show Steps p.tables e below (T15.setTop (mkF m 132 #[.val (.long q0), .second, .val (.long q1), .second, .val (.long q2), .second, .val (.long q3), .second, .val (.long q4), .second, .val (.long q5), .second, .val (.ref b1), .val (.long mix), .second, .unset, .unset, .unset, .unset, .unset, .unset, .unset, .unset] [(.int (2 : Int32)), (.ref b11), (.ref b11)])) _
    refine XS.aload X15.here hx rfl (hb hby at_132) rfl rfl ?_
    show Steps p.tables e below (T15.setTop (mkF m 134 #[.val (.long q0), .second, .val (.long q1), .second, .val (.long q2), .second, .val (.long q3), .second, .val (.long q4), .second, .val (.long q5), .second, .val (.ref b1), .val (.long mix), .second, .unset, .unset, .unset, .unset, .unset, .unset, .unset, .unset] [(.ref b1), (.int (2 : Int32)), (.ref b11), (.ref b11)])) _
    refine XS.iconst X15.here hx rfl (hb hby at_134) ?_
    show Steps p.tables e below (T15.setTop (mkF m 135 #[.val (.long q0), .second, .val (.long q1), .second, .val (.long q2), .second, .val (.long q3), .second, .val (.long q4), .second, .val (.long q5), .second, .val (.ref b1), .val (.long mix), .second, .unset, .unset, .unset, .unset, .unset, .unset, .unset, .unset] [(.int (2 : Int32)), (.ref b1), (.int (2 : Int32)), (.ref b11), (.ref b11)])) _
    refine own_ldJ X15 hx hZ e15 V_b1_15 (j := (2 : Int32)) (by decide) (v := (.long x2)) rfl (g := (mkF m 135 #[.val (.long q0), .second, .val (.long q1), .second, .val (.long q2), .second, .val (.long q3), .second, .val (.long q4), .second, .val (.long q5), .second, .val (.ref b1), .val (.long mix), .second, .unset, .unset, .unset, .unset, .unset, .unset, .unset, .unset] [(.int (2 : Int32)), (.ref b1), (.int (2 : Int32)), (.ref b11), (.ref b11)])) rfl rfl (hb hby at_135) _ ?_
    show Steps p.tables e below (T15.setTop (mkF m 136 #[.val (.long q0), .second, .val (.long q1), .second, .val (.long q2), .second, .val (.long q3), .second, .val (.long q4), .second, .val (.long q5), .second, .val (.ref b1), .val (.long mix), .second, .unset, .unset, .unset, .unset, .unset, .unset, .unset, .unset] [(.long x2), (.int (2 : Int32)), (.ref b11), (.ref b11)])) _
    refine XS.lload X15.here hx rfl (hb hby at_136) rfl ?_
    show Steps p.tables e below (T15.setTop (mkF m 138 #[.val (.long q0), .second, .val (.long q1), .second, .val (.long q2), .second, .val (.long q3), .second, .val (.long q4), .second, .val (.long q5), .second, .val (.ref b1), .val (.long mix), .second, .unset, .unset, .unset, .unset, .unset, .unset, .unset, .unset] [(.long q2), (.long x2), (.int (2 : Int32)), (.ref b11), (.ref b11)])) _
    refine XS.lconst X15.here hx rfl (hb hby at_138) ?_
    show Steps p.tables e below (T15.setTop (mkF m 139 #[.val (.long q0), .second, .val (.long q1), .second, .val (.long q2), .second, .val (.long q3), .second, .val (.long q4), .second, .val (.long q5), .second, .val (.ref b1), .val (.long mix), .second, .unset, .unset, .unset, .unset, .unset, .unset, .unset, .unset] [(.long (0 : Int64)), (.long q2), (.long x2), (.int (2 : Int32)), (.ref b11), (.ref b11)])) _
    refine XS.lload X15.here hx rfl (hb hby at_139) rfl ?_
    show Steps p.tables e below (T15.setTop (mkF m 141 #[.val (.long q0), .second, .val (.long q1), .second, .val (.long q2), .second, .val (.long q3), .second, .val (.long q4), .second, .val (.long q5), .second, .val (.ref b1), .val (.long mix), .second, .unset, .unset, .unset, .unset, .unset, .unset, .unset, .unset] [(.long mix), (.long (0 : Int64)), (.long q2), (.long x2), (.int (2 : Int32)), (.ref b11), (.ref b11)])) _
    refine XS.lload X15.here hx rfl (hb hby at_141) rfl ?_
    show Steps p.tables e below (T15.setTop (mkF m 143 #[.val (.long q0), .second, .val (.long q1), .second, .val (.long q2), .second, .val (.long q3), .second, .val (.long q4), .second, .val (.long q5), .second, .val (.ref b1), .val (.long mix), .second, .unset, .unset, .unset, .unset, .unset, .unset, .unset, .unset] [(.long q5), (.long mix), (.long (0 : Int64)), (.long q2), (.long x2), (.int (2 : Int32)), (.ref b11), (.ref b11)])) _
    refine XS.iconst X15.here hx rfl (hb hby at_143) ?_
    show Steps p.tables e below (T15.setTop (mkF m 144 #[.val (.long q0), .second, .val (.long q1), .second, .val (.long q2), .second, .val (.long q3), .second, .val (.long q4), .second, .val (.long q5), .second, .val (.ref b1), .val (.long mix), .second, .unset, .unset, .unset, .unset, .unset, .unset, .unset, .unset] [(.int (4 : Int32)), (.long q5), (.long mix), (.long (0 : Int64)), (.long q2), (.long x2), (.int (2 : Int32)), (.ref b11), (.ref b11)])) _
    refine XS.lushr X15.here hx rfl (hb hby at_144) rfl ?_
    show Steps p.tables e below (T15.setTop (mkF m 145 #[.val (.long q0), .second, .val (.long q1), .second, .val (.long q2), .second, .val (.long q3), .second, .val (.long q4), .second, .val (.long q5), .second, .val (.ref b1), .val (.long mix), .second, .unset, .unset, .unset, .unset, .unset, .unset, .unset, .unset] [(.long ((q5.toUInt64 >>> ((4 : Int32) &&& 0x3f).toInt64.toUInt64).toInt64)), (.long mix), (.long (0 : Int64)), (.long q2), (.long x2), (.int (2 : Int32)), (.ref b11), (.ref b11)])) _
    refine X15.ldc2Long hx hown (mvT hZ (hw _ (List.mem_of_getElem? (i := 8) rfl))) (g := (mkF m 145 #[.val (.long q0), .second, .val (.long q1), .second, .val (.long q2), .second, .val (.long q3), .second, .val (.long q4), .second, .val (.long q5), .second, .val (.ref b1), .val (.long mix), .second, .unset, .unset, .unset, .unset, .unset, .unset, .unset, .unset] [(.long ((q5.toUInt64 >>> ((4 : Int32) &&& 0x3f).toInt64.toUInt64).toInt64)), (.long mix), (.long (0 : Int64)), (.long q2), (.long x2), (.int (2 : Int32)), (.ref b11), (.ref b11)])) rfl (hb hby at_145) _ ?_
    show Steps p.tables e below (T15.setTop (mkF m 148 #[.val (.long q0), .second, .val (.long q1), .second, .val (.long q2), .second, .val (.long q3), .second, .val (.long q4), .second, .val (.long q5), .second, .val (.ref b1), .val (.long mix), .second, .unset, .unset, .unset, .unset, .unset, .unset, .unset, .unset] [(.long (3 : Int64)), (.long ((q5.toUInt64 >>> ((4 : Int32) &&& 0x3f).toInt64.toUInt64).toInt64)), (.long mix), (.long (0 : Int64)), (.long q2), (.long x2), (.int (2 : Int32)), (.ref b11), (.ref b11)])) _
    refine XS.land X15.here hx rfl (hb hby at_148) rfl ?_
    show Steps p.tables e below (T15.setTop (mkF m 149 #[.val (.long q0), .second, .val (.long q1), .second, .val (.long q2), .second, .val (.long q3), .second, .val (.long q4), .second, .val (.long q5), .second, .val (.ref b1), .val (.long mix), .second, .unset, .unset, .unset, .unset, .unset, .unset, .unset, .unset] [(.long (((q5.toUInt64 >>> ((4 : Int32) &&& 0x3f).toInt64.toUInt64).toInt64) &&& (3 : Int64))), (.long mix), (.long (0 : Int64)), (.long q2), (.long x2), (.int (2 : Int32)), (.ref b11), (.ref b11)])) _
    refine XS.l2i X15.here hx rfl (hb hby at_149) rfl ?_
    show Steps p.tables e below (T15.setTop (mkF m 150 #[.val (.long q0), .second, .val (.long q1), .second, .val (.long q2), .second, .val (.long q3), .second, .val (.long q4), .second, .val (.long q5), .second, .val (.ref b1), .val (.long mix), .second, .unset, .unset, .unset, .unset, .unset, .unset, .unset, .unset] [(.int ((((q5.toUInt64 >>> ((4 : Int32) &&& 0x3f).toInt64.toUInt64).toInt64) &&& (3 : Int64)).toInt32)), (.long mix), (.long (0 : Int64)), (.long q2), (.long x2), (.int (2 : Int32)), (.ref b11), (.ref b11)])) _
    exact k
  obtain ⟨_, T16, L16, X16, N16, ⟨rfl, e16⟩, st16⟩ := own_callS X15 hx hZ hown (hw _ (List.mem_of_getElem? (i := 9) rfl)) (hw _ (List.mem_of_getElem? (i := 10) rfl)) (hw _ (List.mem_of_getElem? (i := 5) rfl)) (hw _ (List.mem_of_getElem? (i := 11) rfl)) (by decide) (argsL := [(.long x2), (.long q2), (.long (0 : Int64)), (.long mix), (.int ((((q5.toUInt64 >>> ((4 : Int32) &&& 0x3f).toInt64.toUInt64).toInt64) &&& (3 : Int64)).toInt32))]) (rest := [(.int (2 : Int32)), (.ref b11), (.ref b11)]) (rm2 l Z a0 hw x2 q2 (0 : Int64) mix ((((q5.toUInt64 >>> ((4 : Int32) &&& 0x3f).toInt64.toUInt64).toInt64) &&& (3 : Int64)).toInt32) h15 n0) (W := 3) (by decide) (by decide) (g := (mkF m 150 #[.val (.long q0), .second, .val (.long q1), .second, .val (.long q2), .second, .val (.long q3), .second, .val (.long q4), .second, .val (.long q5), .second, .val (.ref b1), .val (.long mix), .second, .unset, .unset, .unset, .unset, .unset, .unset, .unset, .unset] [(.int ((((q5.toUInt64 >>> ((4 : Int32) &&& 0x3f).toInt64.toUInt64).toInt64) &&& (3 : Int64)).toInt32)), (.long mix), (.long (0 : Int64)), (.long q2), (.long x2), (.int (2 : Int32)), (.ref b11), (.ref b11)])) rfl (by rw [hml]; rfl) pd_2 rfl rfl (by show 2 * 0 + _ ≤ _; exact Nat.le_of_eq rfl) (hb hby at_150) e15 (by decide) (by decide) N15
  refine own_go (T' := T16) (g' := (mkF m 153 #[.val (.long q0), .second, .val (.long q1), .second, .val (.long q2), .second, .val (.long q3), .second, .val (.long q4), .second, .val (.long q5), .second, .val (.ref b1), .val (.long mix), .second, .unset, .unset, .unset, .unset, .unset, .unset, .unset, .unset] [(.long (f2_0 x2 q2 (0 : Int64) mix ((((q5.toUInt64 >>> ((4 : Int32) &&& 0x3f).toInt64.toUInt64).toInt64) &&& (3 : Int64)).toInt32))), (.int (2 : Int32)), (.ref b11), (.ref b11)])) st16 ?_
  obtain ⟨w2, h_w2⟩ : ∃ z : Int64, z = (f2_0 x2 q2 (0 : Int64) mix ((((q5.toUInt64 >>> ((4 : Int32) &&& 0x3f).toInt64.toUInt64).toInt64) &&& (3 : Int64)).toInt32)) := ⟨_, rfl⟩
  rw [← h_w2]
  obtain ⟨T17, h17, L17, X17, N17, e17, W17, Y17, st17⟩ := own_stJ X16 hx hZ e16 V_b11_15 (j := (2 : Int32)) (by decide) 2 rfl (Nat.le_of_ble_eq_true rfl) N16 ga_b11 (g := (mkF m 153 #[.val (.long q0), .second, .val (.long q1), .second, .val (.long q2), .second, .val (.long q3), .second, .val (.long q4), .second, .val (.long q5), .second, .val (.ref b1), .val (.long mix), .second, .unset, .unset, .unset, .unset, .unset, .unset, .unset, .unset] [(.long w2), (.int (2 : Int32)), (.ref b11), (.ref b11)])) rfl rfl (hb hby at_153)
  have V_b1_17 := V_b1_15.other W17 (Nat.ne_of_lt lt_b1_b11)
  have V_b11_17 : Arv Z h17 b11 k11 .long (5 : Int32) [(.long w0), (.long w1), (.long w2), (.long (0 : Int64)), (.long (0 : Int64))] (.long (0 : Int64)) := Y17
  have sz_17 := Nat.le_trans sz_15 (Nat.le_of_eq (Wr.size W17).symm)
  refine own_go (T' := T17) (g' := (mkF m 154 #[.val (.long q0), .second, .val (.long q1), .second, .val (.long q2), .second, .val (.long q3), .second, .val (.long q4), .second, .val (.long q5), .second, .val (.ref b1), .val (.long mix), .second, .unset, .unset, .unset, .unset, .unset, .unset, .unset, .unset] [(.ref b11)])) st17 ?_
  refine own_go (T' := T17) (g' := (mkF m 177 #[.val (.long q0), .second, .val (.long q1), .second, .val (.long q2), .second, .val (.long q3), .second, .val (.long q4), .second, .val (.long q5), .second, .val (.ref b1), .val (.long mix), .second, .unset, .unset, .unset, .unset, .unset, .unset, .unset, .unset] [(.int ((((q5.toUInt64 >>> ((6 : Int32) &&& 0x3f).toInt64.toUInt64).toInt64) &&& (3 : Int64)).toInt32)), (.long mix), (.long (68719476736 : Int64)), (.long q3), (.long x3), (.int (3 : Int32)), (.ref b11), (.ref b11)])) (fun t k => ?_) ?_
  · show Steps p.tables e below (T17.setTop (mkF m 154 #[.val (.long q0), .second, .val (.long q1), .second, .val (.long q2), .second, .val (.long q3), .second, .val (.long q4), .second, .val (.long q5), .second, .val (.ref b1), .val (.long mix), .second, .unset, .unset, .unset, .unset, .unset, .unset, .unset, .unset] [(.ref b11)])) t
    refine XS.dup X17.here hx rfl (hb hby at_154) rfl rfl ?_
    show Steps p.tables e below (T17.setTop (mkF m 155 #[.val (.long q0), .second, .val (.long q1), .second, .val (.long q2), .second, .val (.long q3), .second, .val (.long q4), .second, .val (.long q5), .second, .val (.ref b1), .val (.long mix), .second, .unset, .unset, .unset, .unset, .unset, .unset, .unset, .unset] [(.ref b11), (.ref b11)])) _
    refine XS.iconst X17.here hx rfl (hb hby at_155) ?_
    show Steps p.tables e below (T17.setTop (mkF m 156 #[.val (.long q0), .second, .val (.long q1), .second, .val (.long q2), .second, .val (.long q3), .second, .val (.long q4), .second, .val (.long q5), .second, .val (.ref b1), .val (.long mix), .second, .unset, .unset, .unset, .unset, .unset, .unset, .unset, .unset] [(.int (3 : Int32)), (.ref b11), (.ref b11)])) _
    refine XS.aload X17.here hx rfl (hb hby at_156) rfl rfl ?_
    show Steps p.tables e below (T17.setTop (mkF m 158 #[.val (.long q0), .second, .val (.long q1), .second, .val (.long q2), .second, .val (.long q3), .second, .val (.long q4), .second, .val (.long q5), .second, .val (.ref b1), .val (.long mix), .second, .unset, .unset, .unset, .unset, .unset, .unset, .unset, .unset] [(.ref b1), (.int (3 : Int32)), (.ref b11), (.ref b11)])) _
    refine XS.iconst X17.here hx rfl (hb hby at_158) ?_
    show Steps p.tables e below (T17.setTop (mkF m 159 #[.val (.long q0), .second, .val (.long q1), .second, .val (.long q2), .second, .val (.long q3), .second, .val (.long q4), .second, .val (.long q5), .second, .val (.ref b1), .val (.long mix), .second, .unset, .unset, .unset, .unset, .unset, .unset, .unset, .unset] [(.int (3 : Int32)), (.ref b1), (.int (3 : Int32)), (.ref b11), (.ref b11)])) _
    refine own_ldJ X17 hx hZ e17 V_b1_17 (j := (3 : Int32)) (by decide) (v := (.long x3)) rfl (g := (mkF m 159 #[.val (.long q0), .second, .val (.long q1), .second, .val (.long q2), .second, .val (.long q3), .second, .val (.long q4), .second, .val (.long q5), .second, .val (.ref b1), .val (.long mix), .second, .unset, .unset, .unset, .unset, .unset, .unset, .unset, .unset] [(.int (3 : Int32)), (.ref b1), (.int (3 : Int32)), (.ref b11), (.ref b11)])) rfl rfl (hb hby at_159) _ ?_
    show Steps p.tables e below (T17.setTop (mkF m 160 #[.val (.long q0), .second, .val (.long q1), .second, .val (.long q2), .second, .val (.long q3), .second, .val (.long q4), .second, .val (.long q5), .second, .val (.ref b1), .val (.long mix), .second, .unset, .unset, .unset, .unset, .unset, .unset, .unset, .unset] [(.long x3), (.int (3 : Int32)), (.ref b11), (.ref b11)])) _
    refine XS.lload X17.here hx rfl (hb hby at_160) rfl ?_
    show Steps p.tables e below (T17.setTop (mkF m 162 #[.val (.long q0), .second, .val (.long q1), .second, .val (.long q2), .second, .val (.long q3), .second, .val (.long q4), .second, .val (.long q5), .second, .val (.ref b1), .val (.long mix), .second, .unset, .unset, .unset, .unset, .unset, .unset, .unset, .unset] [(.long q3), (.long x3), (.int (3 : Int32)), (.ref b11), (.ref b11)])) _
    refine X17.ldc2Long hx hown (mvT hZ (hw _ (List.mem_of_getElem? (i := 13) rfl))) (g := (mkF m 162 #[.val (.long q0), .second, .val (.long q1), .second, .val (.long q2), .second, .val (.long q3), .second, .val (.long q4), .second, .val (.long q5), .second, .val (.ref b1), .val (.long mix), .second, .unset, .unset, .unset, .unset, .unset, .unset, .unset, .unset] [(.long q3), (.long x3), (.int (3 : Int32)), (.ref b11), (.ref b11)])) rfl (hb hby at_162) _ ?_
    show Steps p.tables e below (T17.setTop (mkF m 165 #[.val (.long q0), .second, .val (.long q1), .second, .val (.long q2), .second, .val (.long q3), .second, .val (.long q4), .second, .val (.long q5), .second, .val (.ref b1), .val (.long mix), .second, .unset, .unset, .unset, .unset, .unset, .unset, .unset, .unset] [(.long (68719476736 : Int64)), (.long q3), (.long x3), (.int (3 : Int32)), (.ref b11), (.ref b11)])) _
    refine XS.lload X17.here hx rfl (hb hby at_165) rfl ?_
    show Steps p.tables e below (T17.setTop (mkF m 167 #[.val (.long q0), .second, .val (.long q1), .second, .val (.long q2), .second, .val (.long q3), .second, .val (.long q4), .second, .val (.long q5), .second, .val (.ref b1), .val (.long mix), .second, .unset, .unset, .unset, .unset, .unset, .unset, .unset, .unset] [(.long mix), (.long (68719476736 : Int64)), (.long q3), (.long x3), (.int (3 : Int32)), (.ref b11), (.ref b11)])) _
    refine XS.lload X17.here hx rfl (hb hby at_167) rfl ?_
    show Steps p.tables e below (T17.setTop (mkF m 169 #[.val (.long q0), .second, .val (.long q1), .second, .val (.long q2), .second, .val (.long q3), .second, .val (.long q4), .second, .val (.long q5), .second, .val (.ref b1), .val (.long mix), .second, .unset, .unset, .unset, .unset, .unset, .unset, .unset, .unset] [(.long q5), (.long mix), (.long (68719476736 : Int64)), (.long q3), (.long x3), (.int (3 : Int32)), (.ref b11), (.ref b11)])) _
    refine XS.bipush X17.here hx rfl (hb hby at_169) ?_
    show Steps p.tables e below (T17.setTop (mkF m 171 #[.val (.long q0), .second, .val (.long q1), .second, .val (.long q2), .second, .val (.long q3), .second, .val (.long q4), .second, .val (.long q5), .second, .val (.ref b1), .val (.long mix), .second, .unset, .unset, .unset, .unset, .unset, .unset, .unset, .unset] [(.int (6 : Int32)), (.long q5), (.long mix), (.long (68719476736 : Int64)), (.long q3), (.long x3), (.int (3 : Int32)), (.ref b11), (.ref b11)])) _
    refine XS.lushr X17.here hx rfl (hb hby at_171) rfl ?_
    show Steps p.tables e below (T17.setTop (mkF m 172 #[.val (.long q0), .second, .val (.long q1), .second, .val (.long q2), .second, .val (.long q3), .second, .val (.long q4), .second, .val (.long q5), .second, .val (.ref b1), .val (.long mix), .second, .unset, .unset, .unset, .unset, .unset, .unset, .unset, .unset] [(.long ((q5.toUInt64 >>> ((6 : Int32) &&& 0x3f).toInt64.toUInt64).toInt64)), (.long mix), (.long (68719476736 : Int64)), (.long q3), (.long x3), (.int (3 : Int32)), (.ref b11), (.ref b11)])) _
    refine X17.ldc2Long hx hown (mvT hZ (hw _ (List.mem_of_getElem? (i := 8) rfl))) (g := (mkF m 172 #[.val (.long q0), .second, .val (.long q1), .second, .val (.long q2), .second, .val (.long q3), .second, .val (.long q4), .second, .val (.long q5), .second, .val (.ref b1), .val (.long mix), .second, .unset, .unset, .unset, .unset, .unset, .unset, .unset, .unset] [(.long ((q5.toUInt64 >>> ((6 : Int32) &&& 0x3f).toInt64.toUInt64).toInt64)), (.long mix), (.long (68719476736 : Int64)), (.long q3), (.long x3), (.int (3 : Int32)), (.ref b11), (.ref b11)])) rfl (hb hby at_172) _ ?_
    show Steps p.tables e below (T17.setTop (mkF m 175 #[.val (.long q0), .second, .val (.long q1), .second, .val (.long q2), .second, .val (.long q3), .second, .val (.long q4), .second, .val (.long q5), .second, .val (.ref b1), .val (.long mix), .second, .unset, .unset, .unset, .unset, .unset, .unset, .unset, .unset] [(.long (3 : Int64)), (.long ((q5.toUInt64 >>> ((6 : Int32) &&& 0x3f).toInt64.toUInt64).toInt64)), (.long mix), (.long (68719476736 : Int64)), (.long q3), (.long x3), (.int (3 : Int32)), (.ref b11), (.ref b11)])) _
    refine XS.land X17.here hx rfl (hb hby at_175) rfl ?_
    show Steps p.tables e below (T17.setTop (mkF m 176 #[.val (.long q0), .second, .val (.long q1), .second, .val (.long q2), .second, .val (.long q3), .second, .val (.long q4), .second, .val (.long q5), .second, .val (.ref b1), .val (.long mix), .second, .unset, .unset, .unset, .unset, .unset, .unset, .unset, .unset] [(.long (((q5.toUInt64 >>> ((6 : Int32) &&& 0x3f).toInt64.toUInt64).toInt64) &&& (3 : Int64))), (.long mix), (.long (68719476736 : Int64)), (.long q3), (.long x3), (.int (3 : Int32)), (.ref b11), (.ref b11)])) _
    refine XS.l2i X17.here hx rfl (hb hby at_176) rfl ?_
    show Steps p.tables e below (T17.setTop (mkF m 177 #[.val (.long q0), .second, .val (.long q1), .second, .val (.long q2), .second, .val (.long q3), .second, .val (.long q4), .second, .val (.long q5), .second, .val (.ref b1), .val (.long mix), .second, .unset, .unset, .unset, .unset, .unset, .unset, .unset, .unset] [(.int ((((q5.toUInt64 >>> ((6 : Int32) &&& 0x3f).toInt64.toUInt64).toInt64) &&& (3 : Int64)).toInt32)), (.long mix), (.long (68719476736 : Int64)), (.long q3), (.long x3), (.int (3 : Int32)), (.ref b11), (.ref b11)])) _
    exact k
  obtain ⟨_, T18, L18, X18, N18, ⟨rfl, e18⟩, st18⟩ := own_callS X17 hx hZ hown (hw _ (List.mem_of_getElem? (i := 9) rfl)) (hw _ (List.mem_of_getElem? (i := 10) rfl)) (hw _ (List.mem_of_getElem? (i := 5) rfl)) (hw _ (List.mem_of_getElem? (i := 11) rfl)) (by decide) (argsL := [(.long x3), (.long q3), (.long (68719476736 : Int64)), (.long mix), (.int ((((q5.toUInt64 >>> ((6 : Int32) &&& 0x3f).toInt64.toUInt64).toInt64) &&& (3 : Int64)).toInt32))]) (rest := [(.int (3 : Int32)), (.ref b11), (.ref b11)]) (rm2 l Z a0 hw x3 q3 (68719476736 : Int64) mix ((((q5.toUInt64 >>> ((6 : Int32) &&& 0x3f).toInt64.toUInt64).toInt64) &&& (3 : Int64)).toInt32) h17 n0) (W := 3) (by decide) (by decide) (g := (mkF m 177 #[.val (.long q0), .second, .val (.long q1), .second, .val (.long q2), .second, .val (.long q3), .second, .val (.long q4), .second, .val (.long q5), .second, .val (.ref b1), .val (.long mix), .second, .unset, .unset, .unset, .unset, .unset, .unset, .unset, .unset] [(.int ((((q5.toUInt64 >>> ((6 : Int32) &&& 0x3f).toInt64.toUInt64).toInt64) &&& (3 : Int64)).toInt32)), (.long mix), (.long (68719476736 : Int64)), (.long q3), (.long x3), (.int (3 : Int32)), (.ref b11), (.ref b11)])) rfl (by rw [hml]; rfl) pd_2 rfl rfl (by show 2 * 0 + _ ≤ _; exact Nat.le_of_eq rfl) (hb hby at_177) e17 (by decide) (by decide) N17
  refine own_go (T' := T18) (g' := (mkF m 180 #[.val (.long q0), .second, .val (.long q1), .second, .val (.long q2), .second, .val (.long q3), .second, .val (.long q4), .second, .val (.long q5), .second, .val (.ref b1), .val (.long mix), .second, .unset, .unset, .unset, .unset, .unset, .unset, .unset, .unset] [(.long (f2_0 x3 q3 (68719476736 : Int64) mix ((((q5.toUInt64 >>> ((6 : Int32) &&& 0x3f).toInt64.toUInt64).toInt64) &&& (3 : Int64)).toInt32))), (.int (3 : Int32)), (.ref b11), (.ref b11)])) st18 ?_
  obtain ⟨w3, h_w3⟩ : ∃ z : Int64, z = (f2_0 x3 q3 (68719476736 : Int64) mix ((((q5.toUInt64 >>> ((6 : Int32) &&& 0x3f).toInt64.toUInt64).toInt64) &&& (3 : Int64)).toInt32)) := ⟨_, rfl⟩
  rw [← h_w3]
  obtain ⟨T19, h19, L19, X19, N19, e19, W19, Y19, st19⟩ := own_stJ X18 hx hZ e18 V_b11_17 (j := (3 : Int32)) (by decide) 3 rfl (Nat.le_of_ble_eq_true rfl) N18 ga_b11 (g := (mkF m 180 #[.val (.long q0), .second, .val (.long q1), .second, .val (.long q2), .second, .val (.long q3), .second, .val (.long q4), .second, .val (.long q5), .second, .val (.ref b1), .val (.long mix), .second, .unset, .unset, .unset, .unset, .unset, .unset, .unset, .unset] [(.long w3), (.int (3 : Int32)), (.ref b11), (.ref b11)])) rfl rfl (hb hby at_180)
  have V_b1_19 := V_b1_17.other W19 (Nat.ne_of_lt lt_b1_b11)
  have V_b11_19 : Arv Z h19 b11 k11 .long (5 : Int32) [(.long w0), (.long w1), (.long w2), (.long w3), (.long (0 : Int64))] (.long (0 : Int64)) := Y19
  have sz_19 := Nat.le_trans sz_17 (Nat.le_of_eq (Wr.size W19).symm)
  refine own_go (T' := T19) (g' := (mkF m 181 #[.val (.long q0), .second, .val (.long q1), .second, .val (.long q2), .second, .val (.long q3), .second, .val (.long q4), .second, .val (.long q5), .second, .val (.ref b1), .val (.long mix), .second, .unset, .unset, .unset, .unset, .unset, .unset, .unset, .unset] [(.ref b11)])) st19 ?_
  refine own_go (T' := T19) (g' := (mkF m 204 #[.val (.long q0), .second, .val (.long q1), .second, .val (.long q2), .second, .val (.long q3), .second, .val (.long q4), .second, .val (.long q5), .second, .val (.ref b1), .val (.long mix), .second, .unset, .unset, .unset, .unset, .unset, .unset, .unset, .unset] [(.int ((((q5.toUInt64 >>> ((8 : Int32) &&& 0x3f).toInt64.toUInt64).toInt64) &&& (3 : Int64)).toInt32)), (.long mix), (.long (281474976645120 : Int64)), (.long q4), (.long y8), (.int (4 : Int32)), (.ref b11), (.ref b11)])) (fun t k => ?_) ?_
  · show Steps p.tables e below (T19.setTop (mkF m 181 #[.val (.long q0), .second, .val (.long q1), .second, .val (.long q2), .second, .val (.long q3), .second, .val (.long q4), .second, .val (.long q5), .second, .val (.ref b1), .val (.long mix), .second, .unset, .unset, .unset, .unset, .unset, .unset, .unset, .unset] [(.ref b11)])) t
    refine XS.dup X19.here hx rfl (hb hby at_181) rfl rfl ?_
    show Steps p.tables e below (T19.setTop (mkF m 182 #[.val (.long q0), .second, .val (.long q1), .second, .val (.long q2), .second, .val (.long q3), .second, .val (.long q4), .second, .val (.long q5), .second, .val (.ref b1), .val (.long mix), .second, .unset, .unset, .unset, .unset, .unset, .unset, .unset, .unset] [(.ref b11), (.ref b11)])) _
    refine XS.iconst X19.here hx rfl (hb hby at_182) ?_
    show Steps p.tables e below (T19.setTop (mkF m 183 #[.val (.long q0), .second, .val (.long q1), .second, .val (.long q2), .second, .val (.long q3), .second, .val (.long q4), .second, .val (.long q5), .second, .val (.ref b1), .val (.long mix), .second, .unset, .unset, .unset, .unset, .unset, .unset, .unset, .unset] [(.int (4 : Int32)), (.ref b11), (.ref b11)])) _
    refine XS.aload X19.here hx rfl (hb hby at_183) rfl rfl ?_
    show Steps p.tables e below (T19.setTop (mkF m 185 #[.val (.long q0), .second, .val (.long q1), .second, .val (.long q2), .second, .val (.long q3), .second, .val (.long q4), .second, .val (.long q5), .second, .val (.ref b1), .val (.long mix), .second, .unset, .unset, .unset, .unset, .unset, .unset, .unset, .unset] [(.ref b1), (.int (4 : Int32)), (.ref b11), (.ref b11)])) _
    refine XS.iconst X19.here hx rfl (hb hby at_185) ?_
    show Steps p.tables e below (T19.setTop (mkF m 186 #[.val (.long q0), .second, .val (.long q1), .second, .val (.long q2), .second, .val (.long q3), .second, .val (.long q4), .second, .val (.long q5), .second, .val (.ref b1), .val (.long mix), .second, .unset, .unset, .unset, .unset, .unset, .unset, .unset, .unset] [(.int (4 : Int32)), (.ref b1), (.int (4 : Int32)), (.ref b11), (.ref b11)])) _
    refine own_ldJ X19 hx hZ e19 V_b1_19 (j := (4 : Int32)) (by decide) (v := (.long y8)) rfl (g := (mkF m 186 #[.val (.long q0), .second, .val (.long q1), .second, .val (.long q2), .second, .val (.long q3), .second, .val (.long q4), .second, .val (.long q5), .second, .val (.ref b1), .val (.long mix), .second, .unset, .unset, .unset, .unset, .unset, .unset, .unset, .unset] [(.int (4 : Int32)), (.ref b1), (.int (4 : Int32)), (.ref b11), (.ref b11)])) rfl rfl (hb hby at_186) _ ?_
    show Steps p.tables e below (T19.setTop (mkF m 187 #[.val (.long q0), .second, .val (.long q1), .second, .val (.long q2), .second, .val (.long q3), .second, .val (.long q4), .second, .val (.long q5), .second, .val (.ref b1), .val (.long mix), .second, .unset, .unset, .unset, .unset, .unset, .unset, .unset, .unset] [(.long y8), (.int (4 : Int32)), (.ref b11), (.ref b11)])) _
    refine XS.lload X19.here hx rfl (hb hby at_187) rfl ?_
    show Steps p.tables e below (T19.setTop (mkF m 189 #[.val (.long q0), .second, .val (.long q1), .second, .val (.long q2), .second, .val (.long q3), .second, .val (.long q4), .second, .val (.long q5), .second, .val (.ref b1), .val (.long mix), .second, .unset, .unset, .unset, .unset, .unset, .unset, .unset, .unset] [(.long q4), (.long y8), (.int (4 : Int32)), (.ref b11), (.ref b11)])) _
    refine X19.ldc2Long hx hown (mvT hZ (hw _ (List.mem_of_getElem? (i := 7) rfl))) (g := (mkF m 189 #[.val (.long q0), .second, .val (.long q1), .second, .val (.long q2), .second, .val (.long q3), .second, .val (.long q4), .second, .val (.long q5), .second, .val (.ref b1), .val (.long mix), .second, .unset, .unset, .unset, .unset, .unset, .unset, .unset, .unset] [(.long q4), (.long y8), (.int (4 : Int32)), (.ref b11), (.ref b11)])) rfl (hb hby at_189) _ ?_
    show Steps p.tables e below (T19.setTop (mkF m 192 #[.val (.long q0), .second, .val (.long q1), .second, .val (.long q2), .second, .val (.long q3), .second, .val (.long q4), .second, .val (.long q5), .second, .val (.ref b1), .val (.long mix), .second, .unset, .unset, .unset, .unset, .unset, .unset, .unset, .unset] [(.long (281474976645120 : Int64)), (.long q4), (.long y8), (.int (4 : Int32)), (.ref b11), (.ref b11)])) _
    refine XS.lload X19.here hx rfl (hb hby at_192) rfl ?_
    show Steps p.tables e below (T19.setTop (mkF m 194 #[.val (.long q0), .second, .val (.long q1), .second, .val (.long q2), .second, .val (.long q3), .second, .val (.long q4), .second, .val (.long q5), .second, .val (.ref b1), .val (.long mix), .second, .unset, .unset, .unset, .unset, .unset, .unset, .unset, .unset] [(.long mix), (.long (281474976645120 : Int64)), (.long q4), (.long y8), (.int (4 : Int32)), (.ref b11), (.ref b11)])) _
    refine XS.lload X19.here hx rfl (hb hby at_194) rfl ?_
    show Steps p.tables e below (T19.setTop (mkF m 196 #[.val (.long q0), .second, .val (.long q1), .second, .val (.long q2), .second, .val (.long q3), .second, .val (.long q4), .second, .val (.long q5), .second, .val (.ref b1), .val (.long mix), .second, .unset, .unset, .unset, .unset, .unset, .unset, .unset, .unset] [(.long q5), (.long mix), (.long (281474976645120 : Int64)), (.long q4), (.long y8), (.int (4 : Int32)), (.ref b11), (.ref b11)])) _
    refine XS.bipush X19.here hx rfl (hb hby at_196) ?_
    show Steps p.tables e below (T19.setTop (mkF m 198 #[.val (.long q0), .second, .val (.long q1), .second, .val (.long q2), .second, .val (.long q3), .second, .val (.long q4), .second, .val (.long q5), .second, .val (.ref b1), .val (.long mix), .second, .unset, .unset, .unset, .unset, .unset, .unset, .unset, .unset] [(.int (8 : Int32)), (.long q5), (.long mix), (.long (281474976645120 : Int64)), (.long q4), (.long y8), (.int (4 : Int32)), (.ref b11), (.ref b11)])) _
    refine XS.lushr X19.here hx rfl (hb hby at_198) rfl ?_
    show Steps p.tables e below (T19.setTop (mkF m 199 #[.val (.long q0), .second, .val (.long q1), .second, .val (.long q2), .second, .val (.long q3), .second, .val (.long q4), .second, .val (.long q5), .second, .val (.ref b1), .val (.long mix), .second, .unset, .unset, .unset, .unset, .unset, .unset, .unset, .unset] [(.long ((q5.toUInt64 >>> ((8 : Int32) &&& 0x3f).toInt64.toUInt64).toInt64)), (.long mix), (.long (281474976645120 : Int64)), (.long q4), (.long y8), (.int (4 : Int32)), (.ref b11), (.ref b11)])) _
    refine X19.ldc2Long hx hown (mvT hZ (hw _ (List.mem_of_getElem? (i := 8) rfl))) (g := (mkF m 199 #[.val (.long q0), .second, .val (.long q1), .second, .val (.long q2), .second, .val (.long q3), .second, .val (.long q4), .second, .val (.long q5), .second, .val (.ref b1), .val (.long mix), .second, .unset, .unset, .unset, .unset, .unset, .unset, .unset, .unset] [(.long ((q5.toUInt64 >>> ((8 : Int32) &&& 0x3f).toInt64.toUInt64).toInt64)), (.long mix), (.long (281474976645120 : Int64)), (.long q4), (.long y8), (.int (4 : Int32)), (.ref b11), (.ref b11)])) rfl (hb hby at_199) _ ?_
    show Steps p.tables e below (T19.setTop (mkF m 202 #[.val (.long q0), .second, .val (.long q1), .second, .val (.long q2), .second, .val (.long q3), .second, .val (.long q4), .second, .val (.long q5), .second, .val (.ref b1), .val (.long mix), .second, .unset, .unset, .unset, .unset, .unset, .unset, .unset, .unset] [(.long (3 : Int64)), (.long ((q5.toUInt64 >>> ((8 : Int32) &&& 0x3f).toInt64.toUInt64).toInt64)), (.long mix), (.long (281474976645120 : Int64)), (.long q4), (.long y8), (.int (4 : Int32)), (.ref b11), (.ref b11)])) _
    refine XS.land X19.here hx rfl (hb hby at_202) rfl ?_
    show Steps p.tables e below (T19.setTop (mkF m 203 #[.val (.long q0), .second, .val (.long q1), .second, .val (.long q2), .second, .val (.long q3), .second, .val (.long q4), .second, .val (.long q5), .second, .val (.ref b1), .val (.long mix), .second, .unset, .unset, .unset, .unset, .unset, .unset, .unset, .unset] [(.long (((q5.toUInt64 >>> ((8 : Int32) &&& 0x3f).toInt64.toUInt64).toInt64) &&& (3 : Int64))), (.long mix), (.long (281474976645120 : Int64)), (.long q4), (.long y8), (.int (4 : Int32)), (.ref b11), (.ref b11)])) _
    refine XS.l2i X19.here hx rfl (hb hby at_203) rfl ?_
    show Steps p.tables e below (T19.setTop (mkF m 204 #[.val (.long q0), .second, .val (.long q1), .second, .val (.long q2), .second, .val (.long q3), .second, .val (.long q4), .second, .val (.long q5), .second, .val (.ref b1), .val (.long mix), .second, .unset, .unset, .unset, .unset, .unset, .unset, .unset, .unset] [(.int ((((q5.toUInt64 >>> ((8 : Int32) &&& 0x3f).toInt64.toUInt64).toInt64) &&& (3 : Int64)).toInt32)), (.long mix), (.long (281474976645120 : Int64)), (.long q4), (.long y8), (.int (4 : Int32)), (.ref b11), (.ref b11)])) _
    exact k
  obtain ⟨_, T20, L20, X20, N20, ⟨rfl, e20⟩, st20⟩ := own_callS X19 hx hZ hown (hw _ (List.mem_of_getElem? (i := 9) rfl)) (hw _ (List.mem_of_getElem? (i := 10) rfl)) (hw _ (List.mem_of_getElem? (i := 5) rfl)) (hw _ (List.mem_of_getElem? (i := 11) rfl)) (by decide) (argsL := [(.long y8), (.long q4), (.long (281474976645120 : Int64)), (.long mix), (.int ((((q5.toUInt64 >>> ((8 : Int32) &&& 0x3f).toInt64.toUInt64).toInt64) &&& (3 : Int64)).toInt32))]) (rest := [(.int (4 : Int32)), (.ref b11), (.ref b11)]) (rm2 l Z a0 hw y8 q4 (281474976645120 : Int64) mix ((((q5.toUInt64 >>> ((8 : Int32) &&& 0x3f).toInt64.toUInt64).toInt64) &&& (3 : Int64)).toInt32) h19 n0) (W := 3) (by decide) (by decide) (g := (mkF m 204 #[.val (.long q0), .second, .val (.long q1), .second, .val (.long q2), .second, .val (.long q3), .second, .val (.long q4), .second, .val (.long q5), .second, .val (.ref b1), .val (.long mix), .second, .unset, .unset, .unset, .unset, .unset, .unset, .unset, .unset] [(.int ((((q5.toUInt64 >>> ((8 : Int32) &&& 0x3f).toInt64.toUInt64).toInt64) &&& (3 : Int64)).toInt32)), (.long mix), (.long (281474976645120 : Int64)), (.long q4), (.long y8), (.int (4 : Int32)), (.ref b11), (.ref b11)])) rfl (by rw [hml]; rfl) pd_2 rfl rfl (by show 2 * 0 + _ ≤ _; exact Nat.le_of_eq rfl) (hb hby at_204) e19 (by decide) (by decide) N19
  refine own_go (T' := T20) (g' := (mkF m 207 #[.val (.long q0), .second, .val (.long q1), .second, .val (.long q2), .second, .val (.long q3), .second, .val (.long q4), .second, .val (.long q5), .second, .val (.ref b1), .val (.long mix), .second, .unset, .unset, .unset, .unset, .unset, .unset, .unset, .unset] [(.long (f2_0 y8 q4 (281474976645120 : Int64) mix ((((q5.toUInt64 >>> ((8 : Int32) &&& 0x3f).toInt64.toUInt64).toInt64) &&& (3 : Int64)).toInt32))), (.int (4 : Int32)), (.ref b11), (.ref b11)])) st20 ?_
  obtain ⟨w4, h_w4⟩ : ∃ z : Int64, z = (f2_0 y8 q4 (281474976645120 : Int64) mix ((((q5.toUInt64 >>> ((8 : Int32) &&& 0x3f).toInt64.toUInt64).toInt64) &&& (3 : Int64)).toInt32)) := ⟨_, rfl⟩
  rw [← h_w4]
  obtain ⟨T21, h21, L21, X21, N21, e21, W21, Y21, st21⟩ := own_stJ X20 hx hZ e20 V_b11_19 (j := (4 : Int32)) (by decide) 4 rfl (Nat.le_of_ble_eq_true rfl) N20 ga_b11 (g := (mkF m 207 #[.val (.long q0), .second, .val (.long q1), .second, .val (.long q2), .second, .val (.long q3), .second, .val (.long q4), .second, .val (.long q5), .second, .val (.ref b1), .val (.long mix), .second, .unset, .unset, .unset, .unset, .unset, .unset, .unset, .unset] [(.long w4), (.int (4 : Int32)), (.ref b11), (.ref b11)])) rfl rfl (hb hby at_207)
  have V_b1_21 := V_b1_19.other W21 (Nat.ne_of_lt lt_b1_b11)
  have V_b11_21 : Arv Z h21 b11 k11 .long (5 : Int32) [(.long w0), (.long w1), (.long w2), (.long w3), (.long w4)] (.long (0 : Int64)) := Y21
  have sz_21 := Nat.le_trans sz_19 (Nat.le_of_eq (Wr.size W21).symm)
  refine own_go (T' := T21) (g' := (mkF m 208 #[.val (.long q0), .second, .val (.long q1), .second, .val (.long q2), .second, .val (.long q3), .second, .val (.long q4), .second, .val (.long q5), .second, .val (.ref b1), .val (.long mix), .second, .unset, .unset, .unset, .unset, .unset, .unset, .unset, .unset] [(.ref b11)])) st21 ?_
  refine own_go (T' := T21) (g' := (mkF m 221 #[.val (.long q0), .second, .val (.long q1), .second, .val (.long q2), .second, .val (.long q3), .second, .val (.long q4), .second, .val (.long q5), .second, .val (.ref b1), .val (.long mix), .second, .val (.ref b11), .unset, .unset, .unset, .unset, .unset, .unset, .unset] [(.long (w4 &&& (281474976710655 : Int64))), (.int (4 : Int32)), (.ref b11)])) (fun t k => ?_) ?_
  · show Steps p.tables e below (T21.setTop (mkF m 208 #[.val (.long q0), .second, .val (.long q1), .second, .val (.long q2), .second, .val (.long q3), .second, .val (.long q4), .second, .val (.long q5), .second, .val (.ref b1), .val (.long mix), .second, .unset, .unset, .unset, .unset, .unset, .unset, .unset, .unset] [(.ref b11)])) t
    refine XS.astore X21.here hx rfl (hb hby at_208) rfl rfl (l' := #[.val (.long q0), .second, .val (.long q1), .second, .val (.long q2), .second, .val (.long q3), .second, .val (.long q4), .second, .val (.long q5), .second, .val (.ref b1), .val (.long mix), .second, .val (.ref b11), .unset, .unset, .unset, .unset, .unset, .unset, .unset]) rfl ?_
    show Steps p.tables e below (T21.setTop (mkF m 210 #[.val (.long q0), .second, .val (.long q1), .second, .val (.long q2), .second, .val (.long q3), .second, .val (.long q4), .second, .val (.long q5), .second, .val (.ref b1), .val (.long mix), .second, .val (.ref b11), .unset, .unset, .unset, .unset, .unset, .unset, .unset] [])) _
    refine XS.aload X21.here hx rfl (hb hby at_210) rfl rfl ?_
    show Steps p.tables e below (T21.setTop (mkF m 212 #[.val (.long q0), .second, .val (.long q1), .second, .val (.long q2), .second, .val (.long q3), .second, .val (.long q4), .second, .val (.long q5), .second, .val (.ref b1), .val (.long mix), .second, .val (.ref b11), .unset, .unset, .unset, .unset, .unset, .unset, .unset] [(.ref b11)])) _
    refine XS.iconst X21.here hx rfl (hb hby at_212) ?_
    show Steps p.tables e below (T21.setTop (mkF m 213 #[.val (.long q0), .second, .val (.long q1), .second, .val (.long q2), .second, .val (.long q3), .second, .val (.long q4), .second, .val (.long q5), .second, .val (.ref b1), .val (.long mix), .second, .val (.ref b11), .unset, .unset, .unset, .unset, .unset, .unset, .unset] [(.int (4 : Int32)), (.ref b11)])) _
    refine XS.aload X21.here hx rfl (hb hby at_213) rfl rfl ?_
    show Steps p.tables e below (T21.setTop (mkF m 215 #[.val (.long q0), .second, .val (.long q1), .second, .val (.long q2), .second, .val (.long q3), .second, .val (.long q4), .second, .val (.long q5), .second, .val (.ref b1), .val (.long mix), .second, .val (.ref b11), .unset, .unset, .unset, .unset, .unset, .unset, .unset] [(.ref b11), (.int (4 : Int32)), (.ref b11)])) _
    refine XS.iconst X21.here hx rfl (hb hby at_215) ?_
    show Steps p.tables e below (T21.setTop (mkF m 216 #[.val (.long q0), .second, .val (.long q1), .second, .val (.long q2), .second, .val (.long q3), .second, .val (.long q4), .second, .val (.long q5), .second, .val (.ref b1), .val (.long mix), .second, .val (.ref b11), .unset, .unset, .unset, .unset, .unset, .unset, .unset] [(.int (4 : Int32)), (.ref b11), (.int (4 : Int32)), (.ref b11)])) _
    refine own_ldJ X21 hx hZ e21 V_b11_21 (j := (4 : Int32)) (by decide) (v := (.long w4)) rfl (g := (mkF m 216 #[.val (.long q0), .second, .val (.long q1), .second, .val (.long q2), .second, .val (.long q3), .second, .val (.long q4), .second, .val (.long q5), .second, .val (.ref b1), .val (.long mix), .second, .val (.ref b11), .unset, .unset, .unset, .unset, .unset, .unset, .unset] [(.int (4 : Int32)), (.ref b11), (.int (4 : Int32)), (.ref b11)])) rfl rfl (hb hby at_216) _ ?_
    show Steps p.tables e below (T21.setTop (mkF m 217 #[.val (.long q0), .second, .val (.long q1), .second, .val (.long q2), .second, .val (.long q3), .second, .val (.long q4), .second, .val (.long q5), .second, .val (.ref b1), .val (.long mix), .second, .val (.ref b11), .unset, .unset, .unset, .unset, .unset, .unset, .unset] [(.long w4), (.int (4 : Int32)), (.ref b11)])) _
    refine X21.ldc2Long hx hown (mvT hZ (hw _ (List.mem_of_getElem? (i := 2) rfl))) (g := (mkF m 217 #[.val (.long q0), .second, .val (.long q1), .second, .val (.long q2), .second, .val (.long q3), .second, .val (.long q4), .second, .val (.long q5), .second, .val (.ref b1), .val (.long mix), .second, .val (.ref b11), .unset, .unset, .unset, .unset, .unset, .unset, .unset] [(.long w4), (.int (4 : Int32)), (.ref b11)])) rfl (hb hby at_217) _ ?_
    show Steps p.tables e below (T21.setTop (mkF m 220 #[.val (.long q0), .second, .val (.long q1), .second, .val (.long q2), .second, .val (.long q3), .second, .val (.long q4), .second, .val (.long q5), .second, .val (.ref b1), .val (.long mix), .second, .val (.ref b11), .unset, .unset, .unset, .unset, .unset, .unset, .unset] [(.long (281474976710655 : Int64)), (.long w4), (.int (4 : Int32)), (.ref b11)])) _
    refine XS.land X21.here hx rfl (hb hby at_220) rfl ?_
    show Steps p.tables e below (T21.setTop (mkF m 221 #[.val (.long q0), .second, .val (.long q1), .second, .val (.long q2), .second, .val (.long q3), .second, .val (.long q4), .second, .val (.long q5), .second, .val (.ref b1), .val (.long mix), .second, .val (.ref b11), .unset, .unset, .unset, .unset, .unset, .unset, .unset] [(.long (w4 &&& (281474976710655 : Int64))), (.int (4 : Int32)), (.ref b11)])) _
    exact k
  obtain ⟨w5, h_w5⟩ : ∃ z : Int64, z = (w4 &&& (281474976710655 : Int64)) := ⟨_, rfl⟩
  rw [← h_w5]
  obtain ⟨T22, h22, L22, X22, N22, e22, W22, Y22, st22⟩ := own_stJ X21 hx hZ e21 V_b11_21 (j := (4 : Int32)) (by decide) 4 rfl (Nat.le_of_ble_eq_true rfl) N21 ga_b11 (g := (mkF m 221 #[.val (.long q0), .second, .val (.long q1), .second, .val (.long q2), .second, .val (.long q3), .second, .val (.long q4), .second, .val (.long q5), .second, .val (.ref b1), .val (.long mix), .second, .val (.ref b11), .unset, .unset, .unset, .unset, .unset, .unset, .unset] [(.long w5), (.int (4 : Int32)), (.ref b11)])) rfl rfl (hb hby at_221)
  have V_b1_22 := V_b1_21.other W22 (Nat.ne_of_lt lt_b1_b11)
  have V_b11_22 : Arv Z h22 b11 k11 .long (5 : Int32) [(.long w0), (.long w1), (.long w2), (.long w3), (.long w5)] (.long (0 : Int64)) := Y22
  have sz_22 := Nat.le_trans sz_21 (Nat.le_of_eq (Wr.size W22).symm)
  refine own_go (T' := T22) (g' := (mkF m 222 #[.val (.long q0), .second, .val (.long q1), .second, .val (.long q2), .second, .val (.long q3), .second, .val (.long q4), .second, .val (.long q5), .second, .val (.ref b1), .val (.long mix), .second, .val (.ref b11), .unset, .unset, .unset, .unset, .unset, .unset, .unset] [])) st22 ?_
  refine own_go (T' := T22) (g' := (mkF m 224 #[.val (.long q0), .second, .val (.long q1), .second, .val (.long q2), .second, .val (.long q3), .second, .val (.long q4), .second, .val (.long q5), .second, .val (.ref b1), .val (.long mix), .second, .val (.ref b11), .unset, .unset, .unset, .unset, .unset, .unset, .unset] [(.ref b11)])) (fun t k => ?_) ?_
  · show Steps p.tables e below (T22.setTop (mkF m 222 #[.val (.long q0), .second, .val (.long q1), .second, .val (.long q2), .second, .val (.long q3), .second, .val (.long q4), .second, .val (.long q5), .second, .val (.ref b1), .val (.long mix), .second, .val (.ref b11), .unset, .unset, .unset, .unset, .unset, .unset, .unset] [])) t
    refine XS.aload X22.here hx rfl (hb hby at_222) rfl rfl ?_
    show Steps p.tables e below (T22.setTop (mkF m 224 #[.val (.long q0), .second, .val (.long q1), .second, .val (.long q2), .second, .val (.long q3), .second, .val (.long q4), .second, .val (.long q5), .second, .val (.ref b1), .val (.long mix), .second, .val (.ref b11), .unset, .unset, .unset, .unset, .unset, .unset, .unset] [(.ref b11)])) _
    exact k
  obtain ⟨_, T23, L23, X23, N23, ⟨rfl, e23⟩, st23⟩ := own_callS X22 hx hZ hown (hw _ (List.mem_of_getElem? (i := 3) rfl)) (hw _ (List.mem_of_getElem? (i := 4) rfl)) (hw _ (List.mem_of_getElem? (i := 5) rfl)) (hw _ (List.mem_of_getElem? (i := 6) rfl)) (by decide) (argsL := [(.ref b11)]) (rest := []) (rm1 l Z a0 hw b11 k11 w0 w1 w2 w3 w5 h22 n0 V_b11_22) (W := 0) (by decide) (by decide) (g := (mkF m 224 #[.val (.long q0), .second, .val (.long q1), .second, .val (.long q2), .second, .val (.long q3), .second, .val (.long q4), .second, .val (.long q5), .second, .val (.ref b1), .val (.long mix), .second, .val (.ref b11), .unset, .unset, .unset, .unset, .unset, .unset, .unset] [(.ref b11)])) rfl (by rw [hml]; rfl) pd_1 rfl rfl (by show 2 * 0 + _ ≤ _; exact Nat.le_of_eq rfl) (hb hby at_224) e22 (by decide) (by decide) N22
  refine own_go (T' := T23) (g' := (mkF m 227 #[.val (.long q0), .second, .val (.long q1), .second, .val (.long q2), .second, .val (.long q3), .second, .val (.long q4), .second, .val (.long q5), .second, .val (.ref b1), .val (.long mix), .second, .val (.ref b11), .unset, .unset, .unset, .unset, .unset, .unset, .unset] [(.int (f1_0 w0 w1 w2 w3 w5))])) st23 ?_
  suffices w24 : ∀ (T24 : State) (L24 : List Loc) (h24 : Heap) (X24 : Stand p l e room_1 s m #[(.long q0), (.long q1), (.long q2), (.long q3), (.long q4), (.long q5)] below meth c T24 L24 2 10) (e24 : T24.heap = h24) (N24 : Fr n0 L24) (sz_24 : n0 ≤ h24.size) (y24 : Int64) (h_y24 : y24 = (if (f1_0 w0 w1 w2 w3 w5) = (0 : Int32) then (w5 &&& (-140737488355329 : Int64)) else w5)) (V_b1_24 : Arv Z h24 b1 k1 .long (5 : Int32) [(.long x0), (.long x1), (.long x2), (.long x3), (.long y8)] (.long (0 : Int64))) (V_b11_24 : Arv Z h24 b11 k11 .long (5 : Int32) [(.long w0), (.long w1), (.long w2), (.long w3), (.long y24)] (.long (0 : Int64))), own_Ends p e below s n0 room_1.cells room_1.slots T24 (mkF m 242 #[.val (.long q0), .second, .val (.long q1), .second, .val (.long q2), .second, .val (.long q3), .second, .val (.long q4), .second, .val (.long q5), .second, .val (.ref b1), .val (.long mix), .second, .val (.ref b11), .unset, .unset, .unset, .unset, .unset, .unset, .unset] []) own_Q0 by
    by_cases hc227_25 : (f1_0 w0 w1 w2 w3 w5) = (0 : Int32)
    · refine own_go (T' := T23) (g' := (mkF m 230 #[.val (.long q0), .second, .val (.long q1), .second, .val (.long q2), .second, .val (.long q3), .second, .val (.long q4), .second, .val (.long q5), .second, .val (.ref b1), .val (.long mix), .second, .val (.ref b11), .unset, .unset, .unset, .unset, .unset, .unset, .unset] [])) (fun t k => ?_) ?_
      · refine XS.ifNo X23.here hx rfl (hb hby at_227) rfl ((if0 _ _).trans (teq hc227_25).2) ?_
        exact k
      refine own_go (T' := T23) (g' := (mkF m 241 #[.val (.long q0), .second, .val (.long q1), .second, .val (.long q2), .second, .val (.long q3), .second, .val (.long q4), .second, .val (.long q5), .second, .val (.ref b1), .val (.long mix), .second, .val (.ref b11), .unset, .unset, .unset, .unset, .unset, .unset, .unset] [(.long (w5 &&& (-140737488355329 : Int64))), (.int (4 : Int32)), (.ref b11)])) (fun t k => ?_) ?_
      · show Steps p.tables e below (T23.setTop (mkF m 230 #[.val (.long q0), .second, .val (.long q1), .second, .val (.long q2), .second, .val (.long q3), .second, .val (.long q4), .second, .val (.long q5), .second, .val (.ref b1), .val (.long mix), .second, .val (.ref b11), .unset, .unset, .unset, .unset, .unset, .unset, .unset] [])) t
        refine XS.aload X23.here hx rfl (hb hby at_230) rfl rfl ?_
        show Steps p.tables e below (T23.setTop (mkF m 232 #[.val (.long q0), .second, .val (.long q1), .second, .val (.long q2), .second, .val (.long q3), .second, .val (.long q4), .second, .val (.long q5), .second, .val (.ref b1), .val (.long mix), .second, .val (.ref b11), .unset, .unset, .unset, .unset, .unset, .unset, .unset] [(.ref b11)])) _
        refine XS.iconst X23.here hx rfl (hb hby at_232) ?_
        show Steps p.tables e below (T23.setTop (mkF m 233 #[.val (.long q0), .second, .val (.long q1), .second, .val (.long q2), .second, .val (.long q3), .second, .val (.long q4), .second, .val (.long q5), .second, .val (.ref b1), .val (.long mix), .second, .val (.ref b11), .unset, .unset, .unset, .unset, .unset, .unset, .unset] [(.int (4 : Int32)), (.ref b11)])) _
        refine XS.aload X23.here hx rfl (hb hby at_233) rfl rfl ?_
        show Steps p.tables e below (T23.setTop (mkF m 235 #[.val (.long q0), .second, .val (.long q1), .second, .val (.long q2), .second, .val (.long q3), .second, .val (.long q4), .second, .val (.long q5), .second, .val (.ref b1), .val (.long mix), .second, .val (.ref b11), .unset, .unset, .unset, .unset, .unset, .unset, .unset] [(.ref b11), (.int (4 : Int32)), (.ref b11)])) _
        refine XS.iconst X23.here hx rfl (hb hby at_235) ?_
        show Steps p.tables e below (T23.setTop (mkF m 236 #[.val (.long q0), .second, .val (.long q1), .second, .val (.long q2), .second, .val (.long q3), .second, .val (.long q4), .second, .val (.long q5), .second, .val (.ref b1), .val (.long mix), .second, .val (.ref b11), .unset, .unset, .unset, .unset, .unset, .unset, .unset] [(.int (4 : Int32)), (.ref b11), (.int (4 : Int32)), (.ref b11)])) _
        refine own_ldJ X23 hx hZ e23 V_b11_22 (j := (4 : Int32)) (by decide) (v := (.long w5)) rfl (g := (mkF m 236 #[.val (.long q0), .second, .val (.long q1), .second, .val (.long q2), .second, .val (.long q3), .second, .val (.long q4), .second, .val (.long q5), .second, .val (.ref b1), .val (.long mix), .second, .val (.ref b11), .unset, .unset, .unset, .unset, .unset, .unset, .unset] [(.int (4 : Int32)), (.ref b11), (.int (4 : Int32)), (.ref b11)])) rfl rfl (hb hby at_236) _ ?_
        show Steps p.tables e below (T23.setTop (mkF m 237 #[.val (.long q0), .second, .val (.long q1), .second, .val (.long q2), .second, .val (.long q3), .second, .val (.long q4), .second, .val (.long q5), .second, .val (.ref b1), .val (.long mix), .second, .val (.ref b11), .unset, .unset, .unset, .unset, .unset, .unset, .unset] [(.long w5), (.int (4 : Int32)), (.ref b11)])) _
        refine X23.ldc2Long hx hown (mvT hZ (hw _ (List.mem_of_getElem? (i := 35) rfl))) (g := (mkF m 237 #[.val (.long q0), .second, .val (.long q1), .second, .val (.long q2), .second, .val (.long q3), .second, .val (.long q4), .second, .val (.long q5), .second, .val (.ref b1), .val (.long mix), .second, .val (.ref b11), .unset, .unset, .unset, .unset, .unset, .unset, .unset] [(.long w5), (.int (4 : Int32)), (.ref b11)])) rfl (hb hby at_237) _ ?_
        show Steps p.tables e below (T23.setTop (mkF m 240 #[.val (.long q0), .second, .val (.long q1), .second, .val (.long q2), .second, .val (.long q3), .second, .val (.long q4), .second, .val (.long q5), .second, .val (.ref b1), .val (.long mix), .second, .val (.ref b11), .unset, .unset, .unset, .unset, .unset, .unset, .unset] [(.long (-140737488355329 : Int64)), (.long w5), (.int (4 : Int32)), (.ref b11)])) _
        refine XS.land X23.here hx rfl (hb hby at_240) rfl ?_
        show Steps p.tables e below (T23.setTop (mkF m 241 #[.val (.long q0), .second, .val (.long q1), .second, .val (.long q2), .second, .val (.long q3), .second, .val (.long q4), .second, .val (.long q5), .second, .val (.ref b1), .val (.long mix), .second, .val (.ref b11), .unset, .unset, .unset, .unset, .unset, .unset, .unset] [(.long (w5 &&& (-140737488355329 : Int64))), (.int (4 : Int32)), (.ref b11)])) _
        exact k
      obtain ⟨T26, h26, L26, X26, N26, e26, W26, Y26, st26⟩ := own_stJ X23 hx hZ e23 V_b11_22 (j := (4 : Int32)) (by decide) 4 rfl (Nat.le_of_ble_eq_true rfl) N23 ga_b11 (g := (mkF m 241 #[.val (.long q0), .second, .val (.long q1), .second, .val (.long q2), .second, .val (.long q3), .second, .val (.long q4), .second, .val (.long q5), .second, .val (.ref b1), .val (.long mix), .second, .val (.ref b11), .unset, .unset, .unset, .unset, .unset, .unset, .unset] [(.long (w5 &&& (-140737488355329 : Int64))), (.int (4 : Int32)), (.ref b11)])) rfl rfl (hb hby at_241)
      have V_b1_26 := V_b1_22.other W26 (Nat.ne_of_lt lt_b1_b11)
      have V_b11_26 : Arv Z h26 b11 k11 .long (5 : Int32) [(.long w0), (.long w1), (.long w2), (.long w3), (.long (w5 &&& (-140737488355329 : Int64)))] (.long (0 : Int64)) := Y26
      have sz_26 := Nat.le_trans sz_22 (Nat.le_of_eq (Wr.size W26).symm)
      refine own_go (T' := T26) (g' := (mkF m 242 #[.val (.long q0), .second, .val (.long q1), .second, .val (.long q2), .second, .val (.long q3), .second, .val (.long q4), .second, .val (.long q5), .second, .val (.ref b1), .val (.long mix), .second, .val (.ref b11), .unset, .unset, .unset, .unset, .unset, .unset, .unset] [])) st26 ?_
      exact w24 _ _ _ X26 e26 N26 sz_26 _ (by rw [if_pos hc227_25]) V_b1_26 V_b11_26
    · refine own_go (T' := T23) (g' := (mkF m 242 #[.val (.long q0), .second, .val (.long q1), .second, .val (.long q2), .second, .val (.long q3), .second, .val (.long q4), .second, .val (.long q5), .second, .val (.ref b1), .val (.long mix), .second, .val (.ref b11), .unset, .unset, .unset, .unset, .unset, .unset, .unset] [])) (fun t k => ?_) ?_
      · refine XS.ifYes X23.here hx rfl (pc0 := 227) (pc' := 242) rfl (hb hby at_227) rfl ((if0 _ _).trans (feq hc227_25).2) (by decide) (by decide) ?_
        exact k
      exact w24 _ _ _ X23 e23 N23 sz_22 _ (by rw [if_neg hc227_25]) V_b1_22 V_b11_22
  intro T24 L24 h24 X24 e24 N24 sz_24 y24 h_y24 V_b1_24 V_b11_24
  refine own_go (T' := T24) (g' := (mkF m 243 #[.val (.long q0), .second, .val (.long q1), .second, .val (.long q2), .second, .val (.long q3), .second, .val (.long q4), .second, .val (.long q5), .second, .val (.ref b1), .val (.long mix), .second, .val (.ref b11), .unset, .unset, .unset, .unset, .unset, .unset, .unset] [(.int (5 : Int32))])) (fun t k => ?_) ?_
  · show Steps p.tables e below (T24.setTop (mkF m 242 #[.val (.long q0), .second, .val (.long q1), .second, .val (.long q2), .second, .val (.long q3), .second, .val (.long q4), .second, .val (.long q5), .second, .val (.ref b1), .val (.long mix), .second, .val (.ref b11), .unset, .unset, .unset, .unset, .unset, .unset, .unset] [])) t
    refine XS.iconst X24.here hx rfl (hb hby at_242) ?_
    show Steps p.tables e below (T24.setTop (mkF m 243 #[.val (.long q0), .second, .val (.long q1), .second, .val (.long q2), .second, .val (.long q3), .second, .val (.long q4), .second, .val (.long q5), .second, .val (.ref b1), .val (.long mix), .second, .val (.ref b11), .unset, .unset, .unset, .unset, .unset, .unset, .unset] [(.int (5 : Int32))])) _
    exact k
  obtain ⟨T27, h27, k27, b27, g27, X27, e27, E27, A27, st27⟩ := own_new X24 hx hZ (hw _ (List.mem_of_getElem? (i := 0) rfl)) e24 (g := (mkF m 243 #[.val (.long q0), .second, .val (.long q1), .second, .val (.long q2), .second, .val (.long q3), .second, .val (.long q4), .second, .val (.long q5), .second, .val (.ref b1), .val (.long mix), .second, .val (.ref b11), .unset, .unset, .unset, .unset, .unset, .unset, .unset] [(.int (5 : Int32))])) rfl (hb hby at_243) rfl (by decide) (cap := 5) (by decide) (by decide) (by decide) (by decide)
  have lt_b1_b27 : b1 < b27 := Nat.lt_of_lt_of_le V_b1_24.lt (Nat.le_of_eq g27.symm)
  have lt_b11_b27 : b11 < b27 := Nat.lt_of_lt_of_le V_b11_24.lt (Nat.le_of_eq g27.symm)
  have ga_b27 : n0 ≤ b27 := Nat.le_trans sz_24 (Nat.le_of_eq g27.symm)
  have sz_27 := Nat.le_trans sz_24 E27.1
  have V_b1_27 := V_b1_24.ext E27
  have V_b11_27 := V_b11_24.ext E27
  have V_b27_27 : Arv Z h27 b27 k27 .long (5 : Int32) [(.long (0 : Int64)), (.long (0 : Int64)), (.long (0 : Int64)), (.long (0 : Int64)), (.long (0 : Int64))] (.long (0 : Int64)) := A27.pad (pad_rep [] (.long (0 : Int64)) 5)
  refine own_go (T' := T27) (g' := (mkF m 245 #[.val (.long q0), .second, .val (.long q1), .second, .val (.long q2), .second, .val (.long q3), .second, .val (.long q4), .second, .val (.long q5), .second, .val (.ref b1), .val (.long mix), .second, .val (.ref b11), .unset, .unset, .unset, .unset, .unset, .unset, .unset] [(.ref b27)])) st27 ?_
  refine own_go (T' := T27) (g' := (mkF m 251 #[.val (.long q0), .second, .val (.long q1), .second, .val (.long q2), .second, .val (.long q3), .second, .val (.long q4), .second, .val (.long q5), .second, .val (.ref b1), .val (.long mix), .second, .val (.ref b11), .unset, .unset, .unset, .unset, .unset, .unset, .unset] [(.long x0), (.int (0 : Int32)), (.ref b27), (.ref b27)])) (fun t k => ?_) ?_
  · show Steps p.tables e below (T27.setTop (mkF m 245 #[.val (.long q0), .second, .val (.long q1), .second, .val (.long q2), .second, .val (.long q3), .second, .val (.long q4), .second, .val (.long q5), .second, .val (.ref b1), .val (.long mix), .second, .val (.ref b11), .unset, .unset, .unset, .unset, .unset, .unset, .unset] [(.ref b27)])) t
    refine XS.dup X27.here hx rfl (hb hby at_245) rfl rfl ?_
    show Steps p.tables e below (T27.setTop (mkF m 246 #[.val (.long q0), .second, .val (.long q1), .second, .val (.long q2), .second, .val (.long q3), .second, .val (.long q4), .second, .val (.long q5), .second, .val (.ref b1), .val (.long mix), .second, .val (.ref b11), .unset, .unset, .unset, .unset, .unset, .unset, .unset] [(.ref b27), (.ref b27)])) _
    refine XS.iconst X27.here hx rfl (hb hby at_246) ?_
    show Steps p.tables e below (T27.setTop (mkF m 247 #[.val (.long q0), .second, .val (.long q1), .second, .val (.long q2), .second, .val (.long q3), .second, .val (.long q4), .second, .val (.long q5), .second, .val (.ref b1), .val (.long mix), .second, .val (.ref b11), .unset, .unset, .unset, .unset, .unset, .unset, .unset] [(.int (0 : Int32)), (.ref b27), (.ref b27)])) _
    refine XS.aload X27.here hx rfl (hb hby at_247) rfl rfl ?_
    show Steps p.tables e below (T27.setTop (mkF m 249 #[.val (.long q0), .second, .val (.long q1), .second, .val (.long q2), .second, .val (.long q3), .second, .val (.long q4), .second, .val (.long q5), .second, .val (.ref b1), .val (.long mix), .second, .val (.ref b11), .unset, .unset, .unset, .unset, .unset, .unset, .unset] [(.ref b1), (.int (0 : Int32)), (.ref b27), (.ref b27)])) _
    refine XS.iconst X27.here hx rfl (hb hby at_249) ?_
    show Steps p.tables e below (T27.setTop (mkF m 250 #[.val (.long q0), .second, .val (.long q1), .second, .val (.long q2), .second, .val (.long q3), .second, .val (.long q4), .second, .val (.long q5), .second, .val (.ref b1), .val (.long mix), .second, .val (.ref b11), .unset, .unset, .unset, .unset, .unset, .unset, .unset] [(.int (0 : Int32)), (.ref b1), (.int (0 : Int32)), (.ref b27), (.ref b27)])) _
    refine own_ldJ X27 hx hZ e27 V_b1_27 (j := (0 : Int32)) (by decide) (v := (.long x0)) rfl (g := (mkF m 250 #[.val (.long q0), .second, .val (.long q1), .second, .val (.long q2), .second, .val (.long q3), .second, .val (.long q4), .second, .val (.long q5), .second, .val (.ref b1), .val (.long mix), .second, .val (.ref b11), .unset, .unset, .unset, .unset, .unset, .unset, .unset] [(.int (0 : Int32)), (.ref b1), (.int (0 : Int32)), (.ref b27), (.ref b27)])) rfl rfl (hb hby at_250) _ ?_
    show Steps p.tables e below (T27.setTop (mkF m 251 #[.val (.long q0), .second, .val (.long q1), .second, .val (.long q2), .second, .val (.long q3), .second, .val (.long q4), .second, .val (.long q5), .second, .val (.ref b1), .val (.long mix), .second, .val (.ref b11), .unset, .unset, .unset, .unset, .unset, .unset, .unset] [(.long x0), (.int (0 : Int32)), (.ref b27), (.ref b27)])) _
    exact k
  obtain ⟨T28, h28, L28, X28, N28, e28, W28, Y28, st28⟩ := own_stJ X27 hx hZ e27 V_b27_27 (j := (0 : Int32)) (by decide) 0 rfl (Nat.le_of_ble_eq_true rfl) N24 ga_b27 (g := (mkF m 251 #[.val (.long q0), .second, .val (.long q1), .second, .val (.long q2), .second, .val (.long q3), .second, .val (.long q4), .second, .val (.long q5), .second, .val (.ref b1), .val (.long mix), .second, .val (.ref b11), .unset, .unset, .unset, .unset, .unset, .unset, .unset] [(.long x0), (.int (0 : Int32)), (.ref b27), (.ref b27)])) rfl rfl (hb hby at_251)
  have V_b1_28 := V_b1_27.other W28 (Nat.ne_of_lt lt_b1_b27)
  have V_b11_28 := V_b11_27.other W28 (Nat.ne_of_lt lt_b11_b27)
  have V_b27_28 : Arv Z h28 b27 k27 .long (5 : Int32) [(.long x0), (.long (0 : Int64)), (.long (0 : Int64)), (.long (0 : Int64)), (.long (0 : Int64))] (.long (0 : Int64)) := Y28
  have sz_28 := Nat.le_trans sz_27 (Nat.le_of_eq (Wr.size W28).symm)
  refine own_go (T' := T28) (g' := (mkF m 252 #[.val (.long q0), .second, .val (.long q1), .second, .val (.long q2), .second, .val (.long q3), .second, .val (.long q4), .second, .val (.long q5), .second, .val (.ref b1), .val (.long mix), .second, .val (.ref b11), .unset, .unset, .unset, .unset, .unset, .unset, .unset] [(.ref b27)])) st28 ?_
  refine own_go (T' := T28) (g' := (mkF m 258 #[.val (.long q0), .second, .val (.long q1), .second, .val (.long q2), .second, .val (.long q3), .second, .val (.long q4), .second, .val (.long q5), .second, .val (.ref b1), .val (.long mix), .second, .val (.ref b11), .unset, .unset, .unset, .unset, .unset, .unset, .unset] [(.long x1), (.int (1 : Int32)), (.ref b27), (.ref b27)])) (fun t k => ?_) ?_
  · show Steps p.tables e below (T28.setTop (mkF m 252 #[.val (.long q0), .second, .val (.long q1), .second, .val (.long q2), .second, .val (.long q3), .second, .val (.long q4), .second, .val (.long q5), .second, .val (.ref b1), .val (.long mix), .second, .val (.ref b11), .unset, .unset, .unset, .unset, .unset, .unset, .unset] [(.ref b27)])) t
    refine XS.dup X28.here hx rfl (hb hby at_252) rfl rfl ?_
    show Steps p.tables e below (T28.setTop (mkF m 253 #[.val (.long q0), .second, .val (.long q1), .second, .val (.long q2), .second, .val (.long q3), .second, .val (.long q4), .second, .val (.long q5), .second, .val (.ref b1), .val (.long mix), .second, .val (.ref b11), .unset, .unset, .unset, .unset, .unset, .unset, .unset] [(.ref b27), (.ref b27)])) _
    refine XS.iconst X28.here hx rfl (hb hby at_253) ?_
    show Steps p.tables e below (T28.setTop (mkF m 254 #[.val (.long q0), .second, .val (.long q1), .second, .val (.long q2), .second, .val (.long q3), .second, .val (.long q4), .second, .val (.long q5), .second, .val (.ref b1), .val (.long mix), .second, .val (.ref b11), .unset, .unset, .unset, .unset, .unset, .unset, .unset] [(.int (1 : Int32)), (.ref b27), (.ref b27)])) _
    refine XS.aload X28.here hx rfl (hb hby at_254) rfl rfl ?_
    show Steps p.tables e below (T28.setTop (mkF m 256 #[.val (.long q0), .second, .val (.long q1), .second, .val (.long q2), .second, .val (.long q3), .second, .val (.long q4), .second, .val (.long q5), .second, .val (.ref b1), .val (.long mix), .second, .val (.ref b11), .unset, .unset, .unset, .unset, .unset, .unset, .unset] [(.ref b1), (.int (1 : Int32)), (.ref b27), (.ref b27)])) _
    refine XS.iconst X28.here hx rfl (hb hby at_256) ?_
    show Steps p.tables e below (T28.setTop (mkF m 257 #[.val (.long q0), .second, .val (.long q1), .second, .val (.long q2), .second, .val (.long q3), .second, .val (.long q4), .second, .val (.long q5), .second, .val (.ref b1), .val (.long mix), .second, .val (.ref b11), .unset, .unset, .unset, .unset, .unset, .unset, .unset] [(.int (1 : Int32)), (.ref b1), (.int (1 : Int32)), (.ref b27), (.ref b27)])) _
    refine own_ldJ X28 hx hZ e28 V_b1_28 (j := (1 : Int32)) (by decide) (v := (.long x1)) rfl (g := (mkF m 257 #[.val (.long q0), .second, .val (.long q1), .second, .val (.long q2), .second, .val (.long q3), .second, .val (.long q4), .second, .val (.long q5), .second, .val (.ref b1), .val (.long mix), .second, .val (.ref b11), .unset, .unset, .unset, .unset, .unset, .unset, .unset] [(.int (1 : Int32)), (.ref b1), (.int (1 : Int32)), (.ref b27), (.ref b27)])) rfl rfl (hb hby at_257) _ ?_
    show Steps p.tables e below (T28.setTop (mkF m 258 #[.val (.long q0), .second, .val (.long q1), .second, .val (.long q2), .second, .val (.long q3), .second, .val (.long q4), .second, .val (.long q5), .second, .val (.ref b1), .val (.long mix), .second, .val (.ref b11), .unset, .unset, .unset, .unset, .unset, .unset, .unset] [(.long x1), (.int (1 : Int32)), (.ref b27), (.ref b27)])) _
    exact k
  obtain ⟨T29, h29, L29, X29, N29, e29, W29, Y29, st29⟩ := own_stJ X28 hx hZ e28 V_b27_28 (j := (1 : Int32)) (by decide) 1 rfl (Nat.le_of_ble_eq_true rfl) N28 ga_b27 (g := (mkF m 258 #[.val (.long q0), .second, .val (.long q1), .second, .val (.long q2), .second, .val (.long q3), .second, .val (.long q4), .second, .val (.long q5), .second, .val (.ref b1), .val (.long mix), .second, .val (.ref b11), .unset, .unset, .unset, .unset, .unset, .unset, .unset] [(.long x1), (.int (1 : Int32)), (.ref b27), (.ref b27)])) rfl rfl (hb hby at_258)
  have V_b1_29 := V_b1_28.other W29 (Nat.ne_of_lt lt_b1_b27)
  have V_b11_29 := V_b11_28.other W29 (Nat.ne_of_lt lt_b11_b27)
  have V_b27_29 : Arv Z h29 b27 k27 .long (5 : Int32) [(.long x0), (.long x1), (.long (0 : Int64)), (.long (0 : Int64)), (.long (0 : Int64))] (.long (0 : Int64)) := Y29
  have sz_29 := Nat.le_trans sz_28 (Nat.le_of_eq (Wr.size W29).symm)
  refine own_go (T' := T29) (g' := (mkF m 259 #[.val (.long q0), .second, .val (.long q1), .second, .val (.long q2), .second, .val (.long q3), .second, .val (.long q4), .second, .val (.long q5), .second, .val (.ref b1), .val (.long mix), .second, .val (.ref b11), .unset, .unset, .unset, .unset, .unset, .unset, .unset] [(.ref b27)])) st29 ?_
  refine own_go (T' := T29) (g' := (mkF m 265 #[.val (.long q0), .second, .val (.long q1), .second, .val (.long q2), .second, .val (.long q3), .second, .val (.long q4), .second, .val (.long q5), .second, .val (.ref b1), .val (.long mix), .second, .val (.ref b11), .unset, .unset, .unset, .unset, .unset, .unset, .unset] [(.long x2), (.int (2 : Int32)), (.ref b27), (.ref b27)])) (fun t k => ?_) ?_
  · show Steps p.tables e below (T29.setTop (mkF m 259 #[.val (.long q0), .second, .val (.long q1), .second, .val (.long q2), .second, .val (.long q3), .second, .val (.long q4), .second, .val (.long q5), .second, .val (.ref b1), .val (.long mix), .second, .val (.ref b11), .unset, .unset, .unset, .unset, .unset, .unset, .unset] [(.ref b27)])) t
    refine XS.dup X29.here hx rfl (hb hby at_259) rfl rfl ?_
    show Steps p.tables e below (T29.setTop (mkF m 260 #[.val (.long q0), .second, .val (.long q1), .second, .val (.long q2), .second, .val (.long q3), .second, .val (.long q4), .second, .val (.long q5), .second, .val (.ref b1), .val (.long mix), .second, .val (.ref b11), .unset, .unset, .unset, .unset, .unset, .unset, .unset] [(.ref b27), (.ref b27)])) _
    refine XS.iconst X29.here hx rfl (hb hby at_260) ?_
    show Steps p.tables e below (T29.setTop (mkF m 261 #[.val (.long q0), .second, .val (.long q1), .second, .val (.long q2), .second, .val (.long q3), .second, .val (.long q4), .second, .val (.long q5), .second, .val (.ref b1), .val (.long mix), .second, .val (.ref b11), .unset, .unset, .unset, .unset, .unset, .unset, .unset] [(.int (2 : Int32)), (.ref b27), (.ref b27)])) _
    refine XS.aload X29.here hx rfl (hb hby at_261) rfl rfl ?_
    show Steps p.tables e below (T29.setTop (mkF m 263 #[.val (.long q0), .second, .val (.long q1), .second, .val (.long q2), .second, .val (.long q3), .second, .val (.long q4), .second, .val (.long q5), .second, .val (.ref b1), .val (.long mix), .second, .val (.ref b11), .unset, .unset, .unset, .unset, .unset, .unset, .unset] [(.ref b1), (.int (2 : Int32)), (.ref b27), (.ref b27)])) _
    refine XS.iconst X29.here hx rfl (hb hby at_263) ?_
    show Steps p.tables e below (T29.setTop (mkF m 264 #[.val (.long q0), .second, .val (.long q1), .second, .val (.long q2), .second, .val (.long q3), .second, .val (.long q4), .second, .val (.long q5), .second, .val (.ref b1), .val (.long mix), .second, .val (.ref b11), .unset, .unset, .unset, .unset, .unset, .unset, .unset] [(.int (2 : Int32)), (.ref b1), (.int (2 : Int32)), (.ref b27), (.ref b27)])) _
    refine own_ldJ X29 hx hZ e29 V_b1_29 (j := (2 : Int32)) (by decide) (v := (.long x2)) rfl (g := (mkF m 264 #[.val (.long q0), .second, .val (.long q1), .second, .val (.long q2), .second, .val (.long q3), .second, .val (.long q4), .second, .val (.long q5), .second, .val (.ref b1), .val (.long mix), .second, .val (.ref b11), .unset, .unset, .unset, .unset, .unset, .unset, .unset] [(.int (2 : Int32)), (.ref b1), (.int (2 : Int32)), (.ref b27), (.ref b27)])) rfl rfl (hb hby at_264) _ ?_
    show Steps p.tables e below (T29.setTop (mkF m 265 #[.val (.long q0), .second, .val (.long q1), .second, .val (.long q2), .second, .val (.long q3), .second, .val (.long q4), .second, .val (.long q5), .second, .val (.ref b1), .val (.long mix), .second, .val (.ref b11), .unset, .unset, .unset, .unset, .unset, .unset, .unset] [(.long x2), (.int (2 : Int32)), (.ref b27), (.ref b27)])) _
    exact k
  obtain ⟨T30, h30, L30, X30, N30, e30, W30, Y30, st30⟩ := own_stJ X29 hx hZ e29 V_b27_29 (j := (2 : Int32)) (by decide) 2 rfl (Nat.le_of_ble_eq_true rfl) N29 ga_b27 (g := (mkF m 265 #[.val (.long q0), .second, .val (.long q1), .second, .val (.long q2), .second, .val (.long q3), .second, .val (.long q4), .second, .val (.long q5), .second, .val (.ref b1), .val (.long mix), .second, .val (.ref b11), .unset, .unset, .unset, .unset, .unset, .unset, .unset] [(.long x2), (.int (2 : Int32)), (.ref b27), (.ref b27)])) rfl rfl (hb hby at_265)
  have V_b1_30 := V_b1_29.other W30 (Nat.ne_of_lt lt_b1_b27)
  have V_b11_30 := V_b11_29.other W30 (Nat.ne_of_lt lt_b11_b27)
  have V_b27_30 : Arv Z h30 b27 k27 .long (5 : Int32) [(.long x0), (.long x1), (.long x2), (.long (0 : Int64)), (.long (0 : Int64))] (.long (0 : Int64)) := Y30
  have sz_30 := Nat.le_trans sz_29 (Nat.le_of_eq (Wr.size W30).symm)
  refine own_go (T' := T30) (g' := (mkF m 266 #[.val (.long q0), .second, .val (.long q1), .second, .val (.long q2), .second, .val (.long q3), .second, .val (.long q4), .second, .val (.long q5), .second, .val (.ref b1), .val (.long mix), .second, .val (.ref b11), .unset, .unset, .unset, .unset, .unset, .unset, .unset] [(.ref b27)])) st30 ?_
  refine own_go (T' := T30) (g' := (mkF m 272 #[.val (.long q0), .second, .val (.long q1), .second, .val (.long q2), .second, .val (.long q3), .second, .val (.long q4), .second, .val (.long q5), .second, .val (.ref b1), .val (.long mix), .second, .val (.ref b11), .unset, .unset, .unset, .unset, .unset, .unset, .unset] [(.long x3), (.int (3 : Int32)), (.ref b27), (.ref b27)])) (fun t k => ?_) ?_
  · show Steps p.tables e below (T30.setTop (mkF m 266 #[.val (.long q0), .second, .val (.long q1), .second, .val (.long q2), .second, .val (.long q3), .second, .val (.long q4), .second, .val (.long q5), .second, .val (.ref b1), .val (.long mix), .second, .val (.ref b11), .unset, .unset, .unset, .unset, .unset, .unset, .unset] [(.ref b27)])) t
    refine XS.dup X30.here hx rfl (hb hby at_266) rfl rfl ?_
    show Steps p.tables e below (T30.setTop (mkF m 267 #[.val (.long q0), .second, .val (.long q1), .second, .val (.long q2), .second, .val (.long q3), .second, .val (.long q4), .second, .val (.long q5), .second, .val (.ref b1), .val (.long mix), .second, .val (.ref b11), .unset, .unset, .unset, .unset, .unset, .unset, .unset] [(.ref b27), (.ref b27)])) _
    refine XS.iconst X30.here hx rfl (hb hby at_267) ?_
    show Steps p.tables e below (T30.setTop (mkF m 268 #[.val (.long q0), .second, .val (.long q1), .second, .val (.long q2), .second, .val (.long q3), .second, .val (.long q4), .second, .val (.long q5), .second, .val (.ref b1), .val (.long mix), .second, .val (.ref b11), .unset, .unset, .unset, .unset, .unset, .unset, .unset] [(.int (3 : Int32)), (.ref b27), (.ref b27)])) _
    refine XS.aload X30.here hx rfl (hb hby at_268) rfl rfl ?_
    show Steps p.tables e below (T30.setTop (mkF m 270 #[.val (.long q0), .second, .val (.long q1), .second, .val (.long q2), .second, .val (.long q3), .second, .val (.long q4), .second, .val (.long q5), .second, .val (.ref b1), .val (.long mix), .second, .val (.ref b11), .unset, .unset, .unset, .unset, .unset, .unset, .unset] [(.ref b1), (.int (3 : Int32)), (.ref b27), (.ref b27)])) _
    refine XS.iconst X30.here hx rfl (hb hby at_270) ?_
    show Steps p.tables e below (T30.setTop (mkF m 271 #[.val (.long q0), .second, .val (.long q1), .second, .val (.long q2), .second, .val (.long q3), .second, .val (.long q4), .second, .val (.long q5), .second, .val (.ref b1), .val (.long mix), .second, .val (.ref b11), .unset, .unset, .unset, .unset, .unset, .unset, .unset] [(.int (3 : Int32)), (.ref b1), (.int (3 : Int32)), (.ref b27), (.ref b27)])) _
    refine own_ldJ X30 hx hZ e30 V_b1_30 (j := (3 : Int32)) (by decide) (v := (.long x3)) rfl (g := (mkF m 271 #[.val (.long q0), .second, .val (.long q1), .second, .val (.long q2), .second, .val (.long q3), .second, .val (.long q4), .second, .val (.long q5), .second, .val (.ref b1), .val (.long mix), .second, .val (.ref b11), .unset, .unset, .unset, .unset, .unset, .unset, .unset] [(.int (3 : Int32)), (.ref b1), (.int (3 : Int32)), (.ref b27), (.ref b27)])) rfl rfl (hb hby at_271) _ ?_
    show Steps p.tables e below (T30.setTop (mkF m 272 #[.val (.long q0), .second, .val (.long q1), .second, .val (.long q2), .second, .val (.long q3), .second, .val (.long q4), .second, .val (.long q5), .second, .val (.ref b1), .val (.long mix), .second, .val (.ref b11), .unset, .unset, .unset, .unset, .unset, .unset, .unset] [(.long x3), (.int (3 : Int32)), (.ref b27), (.ref b27)])) _
    exact k
  obtain ⟨T31, h31, L31, X31, N31, e31, W31, Y31, st31⟩ := own_stJ X30 hx hZ e30 V_b27_30 (j := (3 : Int32)) (by decide) 3 rfl (Nat.le_of_ble_eq_true rfl) N30 ga_b27 (g := (mkF m 272 #[.val (.long q0), .second, .val (.long q1), .second, .val (.long q2), .second, .val (.long q3), .second, .val (.long q4), .second, .val (.long q5), .second, .val (.ref b1), .val (.long mix), .second, .val (.ref b11), .unset, .unset, .unset, .unset, .unset, .unset, .unset] [(.long x3), (.int (3 : Int32)), (.ref b27), (.ref b27)])) rfl rfl (hb hby at_272)
  have V_b1_31 := V_b1_30.other W31 (Nat.ne_of_lt lt_b1_b27)
  have V_b11_31 := V_b11_30.other W31 (Nat.ne_of_lt lt_b11_b27)
  have V_b27_31 : Arv Z h31 b27 k27 .long (5 : Int32) [(.long x0), (.long x1), (.long x2), (.long x3), (.long (0 : Int64))] (.long (0 : Int64)) := Y31
  have sz_31 := Nat.le_trans sz_30 (Nat.le_of_eq (Wr.size W31).symm)
  refine own_go (T' := T31) (g' := (mkF m 273 #[.val (.long q0), .second, .val (.long q1), .second, .val (.long q2), .second, .val (.long q3), .second, .val (.long q4), .second, .val (.long q5), .second, .val (.ref b1), .val (.long mix), .second, .val (.ref b11), .unset, .unset, .unset, .unset, .unset, .unset, .unset] [(.ref b27)])) st31 ?_
  refine own_go (T' := T31) (g' := (mkF m 279 #[.val (.long q0), .second, .val (.long q1), .second, .val (.long q2), .second, .val (.long q3), .second, .val (.long q4), .second, .val (.long q5), .second, .val (.ref b1), .val (.long mix), .second, .val (.ref b11), .unset, .unset, .unset, .unset, .unset, .unset, .unset] [(.long y8), (.int (4 : Int32)), (.ref b27), (.ref b27)])) (fun t k => ?_) ?_
  · show Steps p.tables e below (T31.setTop (mkF m 273 #[.val (.long q0), .second, .val (.long q1), .second, .val (.long q2), .second, .val (.long q3), .second, .val (.long q4), .second, .val (.long q5), .second, .val (.ref b1), .val (.long mix), .second, .val (.ref b11), .unset, .unset, .unset, .unset, .unset, .unset, .unset] [(.ref b27)])) t
    refine XS.dup X31.here hx rfl (hb hby at_273) rfl rfl ?_
    show Steps p.tables e below (T31.setTop (mkF m 274 #[.val (.long q0), .second, .val (.long q1), .second, .val (.long q2), .second, .val (.long q3), .second, .val (.long q4), .second, .val (.long q5), .second, .val (.ref b1), .val (.long mix), .second, .val (.ref b11), .unset, .unset, .unset, .unset, .unset, .unset, .unset] [(.ref b27), (.ref b27)])) _
    refine XS.iconst X31.here hx rfl (hb hby at_274) ?_
    show Steps p.tables e below (T31.setTop (mkF m 275 #[.val (.long q0), .second, .val (.long q1), .second, .val (.long q2), .second, .val (.long q3), .second, .val (.long q4), .second, .val (.long q5), .second, .val (.ref b1), .val (.long mix), .second, .val (.ref b11), .unset, .unset, .unset, .unset, .unset, .unset, .unset] [(.int (4 : Int32)), (.ref b27), (.ref b27)])) _
    refine XS.aload X31.here hx rfl (hb hby at_275) rfl rfl ?_
    show Steps p.tables e below (T31.setTop (mkF m 277 #[.val (.long q0), .second, .val (.long q1), .second, .val (.long q2), .second, .val (.long q3), .second, .val (.long q4), .second, .val (.long q5), .second, .val (.ref b1), .val (.long mix), .second, .val (.ref b11), .unset, .unset, .unset, .unset, .unset, .unset, .unset] [(.ref b1), (.int (4 : Int32)), (.ref b27), (.ref b27)])) _
    refine XS.iconst X31.here hx rfl (hb hby at_277) ?_
    show Steps p.tables e below (T31.setTop (mkF m 278 #[.val (.long q0), .second, .val (.long q1), .second, .val (.long q2), .second, .val (.long q3), .second, .val (.long q4), .second, .val (.long q5), .second, .val (.ref b1), .val (.long mix), .second, .val (.ref b11), .unset, .unset, .unset, .unset, .unset, .unset, .unset] [(.int (4 : Int32)), (.ref b1), (.int (4 : Int32)), (.ref b27), (.ref b27)])) _
    refine own_ldJ X31 hx hZ e31 V_b1_31 (j := (4 : Int32)) (by decide) (v := (.long y8)) rfl (g := (mkF m 278 #[.val (.long q0), .second, .val (.long q1), .second, .val (.long q2), .second, .val (.long q3), .second, .val (.long q4), .second, .val (.long q5), .second, .val (.ref b1), .val (.long mix), .second, .val (.ref b11), .unset, .unset, .unset, .unset, .unset, .unset, .unset] [(.int (4 : Int32)), (.ref b1), (.int (4 : Int32)), (.ref b27), (.ref b27)])) rfl rfl (hb hby at_278) _ ?_
    show Steps p.tables e below (T31.setTop (mkF m 279 #[.val (.long q0), .second, .val (.long q1), .second, .val (.long q2), .second, .val (.long q3), .second, .val (.long q4), .second, .val (.long q5), .second, .val (.ref b1), .val (.long mix), .second, .val (.ref b11), .unset, .unset, .unset, .unset, .unset, .unset, .unset] [(.long y8), (.int (4 : Int32)), (.ref b27), (.ref b27)])) _
    exact k
  obtain ⟨T32, h32, L32, X32, N32, e32, W32, Y32, st32⟩ := own_stJ X31 hx hZ e31 V_b27_31 (j := (4 : Int32)) (by decide) 4 rfl (Nat.le_of_ble_eq_true rfl) N31 ga_b27 (g := (mkF m 279 #[.val (.long q0), .second, .val (.long q1), .second, .val (.long q2), .second, .val (.long q3), .second, .val (.long q4), .second, .val (.long q5), .second, .val (.ref b1), .val (.long mix), .second, .val (.ref b11), .unset, .unset, .unset, .unset, .unset, .unset, .unset] [(.long y8), (.int (4 : Int32)), (.ref b27), (.ref b27)])) rfl rfl (hb hby at_279)
  have V_b1_32 := V_b1_31.other W32 (Nat.ne_of_lt lt_b1_b27)
  have V_b11_32 := V_b11_31.other W32 (Nat.ne_of_lt lt_b11_b27)
  have V_b27_32 : Arv Z h32 b27 k27 .long (5 : Int32) [(.long x0), (.long x1), (.long x2), (.long x3), (.long y8)] (.long (0 : Int64)) := Y32
  have sz_32 := Nat.le_trans sz_31 (Nat.le_of_eq (Wr.size W32).symm)
  refine own_go (T' := T32) (g' := (mkF m 280 #[.val (.long q0), .second, .val (.long q1), .second, .val (.long q2), .second, .val (.long q3), .second, .val (.long q4), .second, .val (.long q5), .second, .val (.ref b1), .val (.long mix), .second, .val (.ref b11), .unset, .unset, .unset, .unset, .unset, .unset, .unset] [(.ref b27)])) st32 ?_
  refine own_go (T' := T32) (g' := (mkF m 283 #[.val (.long q0), .second, .val (.long q1), .second, .val (.long q2), .second, .val (.long q3), .second, .val (.long q4), .second, .val (.long q5), .second, .val (.ref b1), .val (.long mix), .second, .val (.ref b11), .val (.ref b27), .unset, .unset, .unset, .unset, .unset, .unset] [(.int (5 : Int32))])) (fun t k => ?_) ?_
  · show Steps p.tables e below (T32.setTop (mkF m 280 #[.val (.long q0), .second, .val (.long q1), .second, .val (.long q2), .second, .val (.long q3), .second, .val (.long q4), .second, .val (.long q5), .second, .val (.ref b1), .val (.long mix), .second, .val (.ref b11), .unset, .unset, .unset, .unset, .unset, .unset, .unset] [(.ref b27)])) t
    refine XS.astore X32.here hx rfl (hb hby at_280) rfl rfl (l' := #[.val (.long q0), .second, .val (.long q1), .second, .val (.long q2), .second, .val (.long q3), .second, .val (.long q4), .second, .val (.long q5), .second, .val (.ref b1), .val (.long mix), .second, .val (.ref b11), .val (.ref b27), .unset, .unset, .unset, .unset, .unset, .unset]) rfl ?_
    show Steps p.tables e below (T32.setTop (mkF m 282 #[.val (.long q0), .second, .val (.long q1), .second, .val (.long q2), .second, .val (.long q3), .second, .val (.long q4), .second, .val (.long q5), .second, .val (.ref b1), .val (.long mix), .second, .val (.ref b11), .val (.ref b27), .unset, .unset, .unset, .unset, .unset, .unset] [])) _
    refine XS.iconst X32.here hx rfl (hb hby at_282) ?_
    show Steps p.tables e below (T32.setTop (mkF m 283 #[.val (.long q0), .second, .val (.long q1), .second, .val (.long q2), .second, .val (.long q3), .second, .val (.long q4), .second, .val (.long q5), .second, .val (.ref b1), .val (.long mix), .second, .val (.ref b11), .val (.ref b27), .unset, .unset, .unset, .unset, .unset, .unset] [(.int (5 : Int32))])) _
    exact k
  obtain ⟨T33, h33, k33, b33, g33, X33, e33, E33, A33, st33⟩ := own_new X32 hx hZ (hw _ (List.mem_of_getElem? (i := 0) rfl)) e32 (g := (mkF m 283 #[.val (.long q0), .second, .val (.long q1), .second, .val (.long q2), .second, .val (.long q3), .second, .val (.long q4), .second, .val (.long q5), .second, .val (.ref b1), .val (.long mix), .second, .val (.ref b11), .val (.ref b27), .unset, .unset, .unset, .unset, .unset, .unset] [(.int (5 : Int32))])) rfl (hb hby at_283) rfl (by decide) (cap := 5) (by decide) (by decide) (by decide) (by decide)
  have lt_b1_b33 : b1 < b33 := Nat.lt_of_lt_of_le V_b1_32.lt (Nat.le_of_eq g33.symm)
  have lt_b11_b33 : b11 < b33 := Nat.lt_of_lt_of_le V_b11_32.lt (Nat.le_of_eq g33.symm)
  have lt_b27_b33 : b27 < b33 := Nat.lt_of_lt_of_le V_b27_32.lt (Nat.le_of_eq g33.symm)
  have ga_b33 : n0 ≤ b33 := Nat.le_trans sz_32 (Nat.le_of_eq g33.symm)
  have sz_33 := Nat.le_trans sz_32 E33.1
  have V_b1_33 := V_b1_32.ext E33
  have V_b11_33 := V_b11_32.ext E33
  have V_b27_33 := V_b27_32.ext E33
  have V_b33_33 : Arv Z h33 b33 k33 .long (5 : Int32) [(.long (0 : Int64)), (.long (0 : Int64)), (.long (0 : Int64)), (.long (0 : Int64)), (.long (0 : Int64))] (.long (0 : Int64)) := A33.pad (pad_rep [] (.long (0 : Int64)) 5)
  refine own_go (T' := T33) (g' := (mkF m 285 #[.val (.long q0), .second, .val (.long q1), .second, .val (.long q2), .second, .val (.long q3), .second, .val (.long q4), .second, .val (.long q5), .second, .val (.ref b1), .val (.long mix), .second, .val (.ref b11), .val (.ref b27), .unset, .unset, .unset, .unset, .unset, .unset] [(.ref b33)])) st33 ?_
  refine own_go (T' := T33) (g' := (mkF m 291 #[.val (.long q0), .second, .val (.long q1), .second, .val (.long q2), .second, .val (.long q3), .second, .val (.long q4), .second, .val (.long q5), .second, .val (.ref b1), .val (.long mix), .second, .val (.ref b11), .val (.ref b27), .unset, .unset, .unset, .unset, .unset, .unset] [(.long w0), (.int (0 : Int32)), (.ref b33), (.ref b33)])) (fun t k => ?_) ?_
  · show Steps p.tables e below (T33.setTop (mkF m 285 #[.val (.long q0), .second, .val (.long q1), .second, .val (.long q2), .second, .val (.long q3), .second, .val (.long q4), .second, .val (.long q5), .second, .val (.ref b1), .val (.long mix), .second, .val (.ref b11), .val (.ref b27), .unset, .unset, .unset, .unset, .unset, .unset] [(.ref b33)])) t
    refine XS.dup X33.here hx rfl (hb hby at_285) rfl rfl ?_
    show Steps p.tables e below (T33.setTop (mkF m 286 #[.val (.long q0), .second, .val (.long q1), .second, .val (.long q2), .second, .val (.long q3), .second, .val (.long q4), .second, .val (.long q5), .second, .val (.ref b1), .val (.long mix), .second, .val (.ref b11), .val (.ref b27), .unset, .unset, .unset, .unset, .unset, .unset] [(.ref b33), (.ref b33)])) _
    refine XS.iconst X33.here hx rfl (hb hby at_286) ?_
    show Steps p.tables e below (T33.setTop (mkF m 287 #[.val (.long q0), .second, .val (.long q1), .second, .val (.long q2), .second, .val (.long q3), .second, .val (.long q4), .second, .val (.long q5), .second, .val (.ref b1), .val (.long mix), .second, .val (.ref b11), .val (.ref b27), .unset, .unset, .unset, .unset, .unset, .unset] [(.int (0 : Int32)), (.ref b33), (.ref b33)])) _
    refine XS.aload X33.here hx rfl (hb hby at_287) rfl rfl ?_
    show Steps p.tables e below (T33.setTop (mkF m 289 #[.val (.long q0), .second, .val (.long q1), .second, .val (.long q2), .second, .val (.long q3), .second, .val (.long q4), .second, .val (.long q5), .second, .val (.ref b1), .val (.long mix), .second, .val (.ref b11), .val (.ref b27), .unset, .unset, .unset, .unset, .unset, .unset] [(.ref b11), (.int (0 : Int32)), (.ref b33), (.ref b33)])) _
    refine XS.iconst X33.here hx rfl (hb hby at_289) ?_
    show Steps p.tables e below (T33.setTop (mkF m 290 #[.val (.long q0), .second, .val (.long q1), .second, .val (.long q2), .second, .val (.long q3), .second, .val (.long q4), .second, .val (.long q5), .second, .val (.ref b1), .val (.long mix), .second, .val (.ref b11), .val (.ref b27), .unset, .unset, .unset, .unset, .unset, .unset] [(.int (0 : Int32)), (.ref b11), (.int (0 : Int32)), (.ref b33), (.ref b33)])) _
    refine own_ldJ X33 hx hZ e33 V_b11_33 (j := (0 : Int32)) (by decide) (v := (.long w0)) rfl (g := (mkF m 290 #[.val (.long q0), .second, .val (.long q1), .second, .val (.long q2), .second, .val (.long q3), .second, .val (.long q4), .second, .val (.long q5), .second, .val (.ref b1), .val (.long mix), .second, .val (.ref b11), .val (.ref b27), .unset, .unset, .unset, .unset, .unset, .unset] [(.int (0 : Int32)), (.ref b11), (.int (0 : Int32)), (.ref b33), (.ref b33)])) rfl rfl (hb hby at_290) _ ?_
    show Steps p.tables e below (T33.setTop (mkF m 291 #[.val (.long q0), .second, .val (.long q1), .second, .val (.long q2), .second, .val (.long q3), .second, .val (.long q4), .second, .val (.long q5), .second, .val (.ref b1), .val (.long mix), .second, .val (.ref b11), .val (.ref b27), .unset, .unset, .unset, .unset, .unset, .unset] [(.long w0), (.int (0 : Int32)), (.ref b33), (.ref b33)])) _
    exact k
  obtain ⟨T34, h34, L34, X34, N34, e34, W34, Y34, st34⟩ := own_stJ X33 hx hZ e33 V_b33_33 (j := (0 : Int32)) (by decide) 0 rfl (Nat.le_of_ble_eq_true rfl) N32 ga_b33 (g := (mkF m 291 #[.val (.long q0), .second, .val (.long q1), .second, .val (.long q2), .second, .val (.long q3), .second, .val (.long q4), .second, .val (.long q5), .second, .val (.ref b1), .val (.long mix), .second, .val (.ref b11), .val (.ref b27), .unset, .unset, .unset, .unset, .unset, .unset] [(.long w0), (.int (0 : Int32)), (.ref b33), (.ref b33)])) rfl rfl (hb hby at_291)
  have V_b1_34 := V_b1_33.other W34 (Nat.ne_of_lt lt_b1_b33)
  have V_b11_34 := V_b11_33.other W34 (Nat.ne_of_lt lt_b11_b33)
  have V_b27_34 := V_b27_33.other W34 (Nat.ne_of_lt lt_b27_b33)
  have V_b33_34 : Arv Z h34 b33 k33 .long (5 : Int32) [(.long w0), (.long (0 : Int64)), (.long (0 : Int64)), (.long (0 : Int64)), (.long (0 : Int64))] (.long (0 : Int64)) := Y34
  have sz_34 := Nat.le_trans sz_33 (Nat.le_of_eq (Wr.size W34).symm)
  refine own_go (T' := T34) (g' := (mkF m 292 #[.val (.long q0), .second, .val (.long q1), .second, .val (.long q2), .second, .val (.long q3), .second, .val (.long q4), .second, .val (.long q5), .second, .val (.ref b1), .val (.long mix), .second, .val (.ref b11), .val (.ref b27), .unset, .unset, .unset, .unset, .unset, .unset] [(.ref b33)])) st34 ?_
  refine own_go (T' := T34) (g' := (mkF m 298 #[.val (.long q0), .second, .val (.long q1), .second, .val (.long q2), .second, .val (.long q3), .second, .val (.long q4), .second, .val (.long q5), .second, .val (.ref b1), .val (.long mix), .second, .val (.ref b11), .val (.ref b27), .unset, .unset, .unset, .unset, .unset, .unset] [(.long w1), (.int (1 : Int32)), (.ref b33), (.ref b33)])) (fun t k => ?_) ?_
  · show Steps p.tables e below (T34.setTop (mkF m 292 #[.val (.long q0), .second, .val (.long q1), .second, .val (.long q2), .second, .val (.long q3), .second, .val (.long q4), .second, .val (.long q5), .second, .val (.ref b1), .val (.long mix), .second, .val (.ref b11), .val (.ref b27), .unset, .unset, .unset, .unset, .unset, .unset] [(.ref b33)])) t
    refine XS.dup X34.here hx rfl (hb hby at_292) rfl rfl ?_
    show Steps p.tables e below (T34.setTop (mkF m 293 #[.val (.long q0), .second, .val (.long q1), .second, .val (.long q2), .second, .val (.long q3), .second, .val (.long q4), .second, .val (.long q5), .second, .val (.ref b1), .val (.long mix), .second, .val (.ref b11), .val (.ref b27), .unset, .unset, .unset, .unset, .unset, .unset] [(.ref b33), (.ref b33)])) _
    refine XS.iconst X34.here hx rfl (hb hby at_293) ?_
    show Steps p.tables e below (T34.setTop (mkF m 294 #[.val (.long q0), .second, .val (.long q1), .second, .val (.long q2), .second, .val (.long q3), .second, .val (.long q4), .second, .val (.long q5), .second, .val (.ref b1), .val (.long mix), .second, .val (.ref b11), .val (.ref b27), .unset, .unset, .unset, .unset, .unset, .unset] [(.int (1 : Int32)), (.ref b33), (.ref b33)])) _
    refine XS.aload X34.here hx rfl (hb hby at_294) rfl rfl ?_
    show Steps p.tables e below (T34.setTop (mkF m 296 #[.val (.long q0), .second, .val (.long q1), .second, .val (.long q2), .second, .val (.long q3), .second, .val (.long q4), .second, .val (.long q5), .second, .val (.ref b1), .val (.long mix), .second, .val (.ref b11), .val (.ref b27), .unset, .unset, .unset, .unset, .unset, .unset] [(.ref b11), (.int (1 : Int32)), (.ref b33), (.ref b33)])) _
    refine XS.iconst X34.here hx rfl (hb hby at_296) ?_
    show Steps p.tables e below (T34.setTop (mkF m 297 #[.val (.long q0), .second, .val (.long q1), .second, .val (.long q2), .second, .val (.long q3), .second, .val (.long q4), .second, .val (.long q5), .second, .val (.ref b1), .val (.long mix), .second, .val (.ref b11), .val (.ref b27), .unset, .unset, .unset, .unset, .unset, .unset] [(.int (1 : Int32)), (.ref b11), (.int (1 : Int32)), (.ref b33), (.ref b33)])) _
    refine own_ldJ X34 hx hZ e34 V_b11_34 (j := (1 : Int32)) (by decide) (v := (.long w1)) rfl (g := (mkF m 297 #[.val (.long q0), .second, .val (.long q1), .second, .val (.long q2), .second, .val (.long q3), .second, .val (.long q4), .second, .val (.long q5), .second, .val (.ref b1), .val (.long mix), .second, .val (.ref b11), .val (.ref b27), .unset, .unset, .unset, .unset, .unset, .unset] [(.int (1 : Int32)), (.ref b11), (.int (1 : Int32)), (.ref b33), (.ref b33)])) rfl rfl (hb hby at_297) _ ?_
    show Steps p.tables e below (T34.setTop (mkF m 298 #[.val (.long q0), .second, .val (.long q1), .second, .val (.long q2), .second, .val (.long q3), .second, .val (.long q4), .second, .val (.long q5), .second, .val (.ref b1), .val (.long mix), .second, .val (.ref b11), .val (.ref b27), .unset, .unset, .unset, .unset, .unset, .unset] [(.long w1), (.int (1 : Int32)), (.ref b33), (.ref b33)])) _
    exact k
  obtain ⟨T35, h35, L35, X35, N35, e35, W35, Y35, st35⟩ := own_stJ X34 hx hZ e34 V_b33_34 (j := (1 : Int32)) (by decide) 1 rfl (Nat.le_of_ble_eq_true rfl) N34 ga_b33 (g := (mkF m 298 #[.val (.long q0), .second, .val (.long q1), .second, .val (.long q2), .second, .val (.long q3), .second, .val (.long q4), .second, .val (.long q5), .second, .val (.ref b1), .val (.long mix), .second, .val (.ref b11), .val (.ref b27), .unset, .unset, .unset, .unset, .unset, .unset] [(.long w1), (.int (1 : Int32)), (.ref b33), (.ref b33)])) rfl rfl (hb hby at_298)
  have V_b1_35 := V_b1_34.other W35 (Nat.ne_of_lt lt_b1_b33)
  have V_b11_35 := V_b11_34.other W35 (Nat.ne_of_lt lt_b11_b33)
  have V_b27_35 := V_b27_34.other W35 (Nat.ne_of_lt lt_b27_b33)
  have V_b33_35 : Arv Z h35 b33 k33 .long (5 : Int32) [(.long w0), (.long w1), (.long (0 : Int64)), (.long (0 : Int64)), (.long (0 : Int64))] (.long (0 : Int64)) := Y35
  have sz_35 := Nat.le_trans sz_34 (Nat.le_of_eq (Wr.size W35).symm)
  refine own_go (T' := T35) (g' := (mkF m 299 #[.val (.long q0), .second, .val (.long q1), .second, .val (.long q2), .second, .val (.long q3), .second, .val (.long q4), .second, .val (.long q5), .second, .val (.ref b1), .val (.long mix), .second, .val (.ref b11), .val (.ref b27), .unset, .unset, .unset, .unset, .unset, .unset] [(.ref b33)])) st35 ?_
  refine own_go (T' := T35) (g' := (mkF m 305 #[.val (.long q0), .second, .val (.long q1), .second, .val (.long q2), .second, .val (.long q3), .second, .val (.long q4), .second, .val (.long q5), .second, .val (.ref b1), .val (.long mix), .second, .val (.ref b11), .val (.ref b27), .unset, .unset, .unset, .unset, .unset, .unset] [(.long w2), (.int (2 : Int32)), (.ref b33), (.ref b33)])) (fun t k => ?_) ?_
  · show Steps p.tables e below (T35.setTop (mkF m 299 #[.val (.long q0), .second, .val (.long q1), .second, .val (.long q2), .second, .val (.long q3), .second, .val (.long q4), .second, .val (.long q5), .second, .val (.ref b1), .val (.long mix), .second, .val (.ref b11), .val (.ref b27), .unset, .unset, .unset, .unset, .unset, .unset] [(.ref b33)])) t
    refine XS.dup X35.here hx rfl (hb hby at_299) rfl rfl ?_
    show Steps p.tables e below (T35.setTop (mkF m 300 #[.val (.long q0), .second, .val (.long q1), .second, .val (.long q2), .second, .val (.long q3), .second, .val (.long q4), .second, .val (.long q5), .second, .val (.ref b1), .val (.long mix), .second, .val (.ref b11), .val (.ref b27), .unset, .unset, .unset, .unset, .unset, .unset] [(.ref b33), (.ref b33)])) _
    refine XS.iconst X35.here hx rfl (hb hby at_300) ?_
    show Steps p.tables e below (T35.setTop (mkF m 301 #[.val (.long q0), .second, .val (.long q1), .second, .val (.long q2), .second, .val (.long q3), .second, .val (.long q4), .second, .val (.long q5), .second, .val (.ref b1), .val (.long mix), .second, .val (.ref b11), .val (.ref b27), .unset, .unset, .unset, .unset, .unset, .unset] [(.int (2 : Int32)), (.ref b33), (.ref b33)])) _
    refine XS.aload X35.here hx rfl (hb hby at_301) rfl rfl ?_
    show Steps p.tables e below (T35.setTop (mkF m 303 #[.val (.long q0), .second, .val (.long q1), .second, .val (.long q2), .second, .val (.long q3), .second, .val (.long q4), .second, .val (.long q5), .second, .val (.ref b1), .val (.long mix), .second, .val (.ref b11), .val (.ref b27), .unset, .unset, .unset, .unset, .unset, .unset] [(.ref b11), (.int (2 : Int32)), (.ref b33), (.ref b33)])) _
    refine XS.iconst X35.here hx rfl (hb hby at_303) ?_
    show Steps p.tables e below (T35.setTop (mkF m 304 #[.val (.long q0), .second, .val (.long q1), .second, .val (.long q2), .second, .val (.long q3), .second, .val (.long q4), .second, .val (.long q5), .second, .val (.ref b1), .val (.long mix), .second, .val (.ref b11), .val (.ref b27), .unset, .unset, .unset, .unset, .unset, .unset] [(.int (2 : Int32)), (.ref b11), (.int (2 : Int32)), (.ref b33), (.ref b33)])) _
    refine own_ldJ X35 hx hZ e35 V_b11_35 (j := (2 : Int32)) (by decide) (v := (.long w2)) rfl (g := (mkF m 304 #[.val (.long q0), .second, .val (.long q1), .second, .val (.long q2), .second, .val (.long q3), .second, .val (.long q4), .second, .val (.long q5), .second, .val (.ref b1), .val (.long mix), .second, .val (.ref b11), .val (.ref b27), .unset, .unset, .unset, .unset, .unset, .unset] [(.int (2 : Int32)), (.ref b11), (.int (2 : Int32)), (.ref b33), (.ref b33)])) rfl rfl (hb hby at_304) _ ?_
    show Steps p.tables e below (T35.setTop (mkF m 305 #[.val (.long q0), .second, .val (.long q1), .second, .val (.long q2), .second, .val (.long q3), .second, .val (.long q4), .second, .val (.long q5), .second, .val (.ref b1), .val (.long mix), .second, .val (.ref b11), .val (.ref b27), .unset, .unset, .unset, .unset, .unset, .unset] [(.long w2), (.int (2 : Int32)), (.ref b33), (.ref b33)])) _
    exact k
  obtain ⟨T36, h36, L36, X36, N36, e36, W36, Y36, st36⟩ := own_stJ X35 hx hZ e35 V_b33_35 (j := (2 : Int32)) (by decide) 2 rfl (Nat.le_of_ble_eq_true rfl) N35 ga_b33 (g := (mkF m 305 #[.val (.long q0), .second, .val (.long q1), .second, .val (.long q2), .second, .val (.long q3), .second, .val (.long q4), .second, .val (.long q5), .second, .val (.ref b1), .val (.long mix), .second, .val (.ref b11), .val (.ref b27), .unset, .unset, .unset, .unset, .unset, .unset] [(.long w2), (.int (2 : Int32)), (.ref b33), (.ref b33)])) rfl rfl (hb hby at_305)
  have V_b1_36 := V_b1_35.other W36 (Nat.ne_of_lt lt_b1_b33)
  have V_b11_36 := V_b11_35.other W36 (Nat.ne_of_lt lt_b11_b33)
  have V_b27_36 := V_b27_35.other W36 (Nat.ne_of_lt lt_b27_b33)
  have V_b33_36 : Arv Z h36 b33 k33 .long (5 : Int32) [(.long w0), (.long w1), (.long w2), (.long (0 : Int64)), (.long (0 : Int64))] (.long (0 : Int64)) := Y36
  have sz_36 := Nat.le_trans sz_35 (Nat.le_of_eq (Wr.size W36).symm)
  refine own_go (T' := T36) (g' := (mkF m 306 #[.val (.long q0), .second, .val (.long q1), .second, .val (.long q2), .second, .val (.long q3), .second, .val (.long q4), .second, .val (.long q5), .second, .val (.ref b1), .val (.long mix), .second, .val (.ref b11), .val (.ref b27), .unset, .unset, .unset, .unset, .unset, .unset] [(.ref b33)])) st36 ?_
  refine own_go (T' := T36) (g' := (mkF m 312 #[.val (.long q0), .second, .val (.long q1), .second, .val (.long q2), .second, .val (.long q3), .second, .val (.long q4), .second, .val (.long q5), .second, .val (.ref b1), .val (.long mix), .second, .val (.ref b11), .val (.ref b27), .unset, .unset, .unset, .unset, .unset, .unset] [(.long w3), (.int (3 : Int32)), (.ref b33), (.ref b33)])) (fun t k => ?_) ?_
  · show Steps p.tables e below (T36.setTop (mkF m 306 #[.val (.long q0), .second, .val (.long q1), .second, .val (.long q2), .second, .val (.long q3), .second, .val (.long q4), .second, .val (.long q5), .second, .val (.ref b1), .val (.long mix), .second, .val (.ref b11), .val (.ref b27), .unset, .unset, .unset, .unset, .unset, .unset] [(.ref b33)])) t
    refine XS.dup X36.here hx rfl (hb hby at_306) rfl rfl ?_
    show Steps p.tables e below (T36.setTop (mkF m 307 #[.val (.long q0), .second, .val (.long q1), .second, .val (.long q2), .second, .val (.long q3), .second, .val (.long q4), .second, .val (.long q5), .second, .val (.ref b1), .val (.long mix), .second, .val (.ref b11), .val (.ref b27), .unset, .unset, .unset, .unset, .unset, .unset] [(.ref b33), (.ref b33)])) _
    refine XS.iconst X36.here hx rfl (hb hby at_307) ?_
    show Steps p.tables e below (T36.setTop (mkF m 308 #[.val (.long q0), .second, .val (.long q1), .second, .val (.long q2), .second, .val (.long q3), .second, .val (.long q4), .second, .val (.long q5), .second, .val (.ref b1), .val (.long mix), .second, .val (.ref b11), .val (.ref b27), .unset, .unset, .unset, .unset, .unset, .unset] [(.int (3 : Int32)), (.ref b33), (.ref b33)])) _
    refine XS.aload X36.here hx rfl (hb hby at_308) rfl rfl ?_
    show Steps p.tables e below (T36.setTop (mkF m 310 #[.val (.long q0), .second, .val (.long q1), .second, .val (.long q2), .second, .val (.long q3), .second, .val (.long q4), .second, .val (.long q5), .second, .val (.ref b1), .val (.long mix), .second, .val (.ref b11), .val (.ref b27), .unset, .unset, .unset, .unset, .unset, .unset] [(.ref b11), (.int (3 : Int32)), (.ref b33), (.ref b33)])) _
    refine XS.iconst X36.here hx rfl (hb hby at_310) ?_
    show Steps p.tables e below (T36.setTop (mkF m 311 #[.val (.long q0), .second, .val (.long q1), .second, .val (.long q2), .second, .val (.long q3), .second, .val (.long q4), .second, .val (.long q5), .second, .val (.ref b1), .val (.long mix), .second, .val (.ref b11), .val (.ref b27), .unset, .unset, .unset, .unset, .unset, .unset] [(.int (3 : Int32)), (.ref b11), (.int (3 : Int32)), (.ref b33), (.ref b33)])) _
    refine own_ldJ X36 hx hZ e36 V_b11_36 (j := (3 : Int32)) (by decide) (v := (.long w3)) rfl (g := (mkF m 311 #[.val (.long q0), .second, .val (.long q1), .second, .val (.long q2), .second, .val (.long q3), .second, .val (.long q4), .second, .val (.long q5), .second, .val (.ref b1), .val (.long mix), .second, .val (.ref b11), .val (.ref b27), .unset, .unset, .unset, .unset, .unset, .unset] [(.int (3 : Int32)), (.ref b11), (.int (3 : Int32)), (.ref b33), (.ref b33)])) rfl rfl (hb hby at_311) _ ?_
    show Steps p.tables e below (T36.setTop (mkF m 312 #[.val (.long q0), .second, .val (.long q1), .second, .val (.long q2), .second, .val (.long q3), .second, .val (.long q4), .second, .val (.long q5), .second, .val (.ref b1), .val (.long mix), .second, .val (.ref b11), .val (.ref b27), .unset, .unset, .unset, .unset, .unset, .unset] [(.long w3), (.int (3 : Int32)), (.ref b33), (.ref b33)])) _
    exact k
  obtain ⟨T37, h37, L37, X37, N37, e37, W37, Y37, st37⟩ := own_stJ X36 hx hZ e36 V_b33_36 (j := (3 : Int32)) (by decide) 3 rfl (Nat.le_of_ble_eq_true rfl) N36 ga_b33 (g := (mkF m 312 #[.val (.long q0), .second, .val (.long q1), .second, .val (.long q2), .second, .val (.long q3), .second, .val (.long q4), .second, .val (.long q5), .second, .val (.ref b1), .val (.long mix), .second, .val (.ref b11), .val (.ref b27), .unset, .unset, .unset, .unset, .unset, .unset] [(.long w3), (.int (3 : Int32)), (.ref b33), (.ref b33)])) rfl rfl (hb hby at_312)
  have V_b1_37 := V_b1_36.other W37 (Nat.ne_of_lt lt_b1_b33)
  have V_b11_37 := V_b11_36.other W37 (Nat.ne_of_lt lt_b11_b33)
  have V_b27_37 := V_b27_36.other W37 (Nat.ne_of_lt lt_b27_b33)
  have V_b33_37 : Arv Z h37 b33 k33 .long (5 : Int32) [(.long w0), (.long w1), (.long w2), (.long w3), (.long (0 : Int64))] (.long (0 : Int64)) := Y37
  have sz_37 := Nat.le_trans sz_36 (Nat.le_of_eq (Wr.size W37).symm)
  refine own_go (T' := T37) (g' := (mkF m 313 #[.val (.long q0), .second, .val (.long q1), .second, .val (.long q2), .second, .val (.long q3), .second, .val (.long q4), .second, .val (.long q5), .second, .val (.ref b1), .val (.long mix), .second, .val (.ref b11), .val (.ref b27), .unset, .unset, .unset, .unset, .unset, .unset] [(.ref b33)])) st37 ?_
  refine own_go (T' := T37) (g' := (mkF m 319 #[.val (.long q0), .second, .val (.long q1), .second, .val (.long q2), .second, .val (.long q3), .second, .val (.long q4), .second, .val (.long q5), .second, .val (.ref b1), .val (.long mix), .second, .val (.ref b11), .val (.ref b27), .unset, .unset, .unset, .unset, .unset, .unset] [(.long y24), (.int (4 : Int32)), (.ref b33), (.ref b33)])) (fun t k => ?_) ?_
  · show Steps p.tables e below (T37.setTop (mkF m 313 #[.val (.long q0), .second, .val (.long q1), .second, .val (.long q2), .second, .val (.long q3), .second, .val (.long q4), .second, .val (.long q5), .second, .val (.ref b1), .val (.long mix), .second, .val (.ref b11), .val (.ref b27), .unset, .unset, .unset, .unset, .unset, .unset] [(.ref b33)])) t
    refine XS.dup X37.here hx rfl (hb hby at_313) rfl rfl ?_
    show Steps p.tables e below (T37.setTop (mkF m 314 #[.val (.long q0), .second, .val (.long q1), .second, .val (.long q2), .second, .val (.long q3), .second, .val (.long q4), .second, .val (.long q5), .second, .val (.ref b1), .val (.long mix), .second, .val (.ref b11), .val (.ref b27), .unset, .unset, .unset, .unset, .unset, .unset] [(.ref b33), (.ref b33)])) _
    refine XS.iconst X37.here hx rfl (hb hby at_314) ?_
    show Steps p.tables e below (T37.setTop (mkF m 315 #[.val (.long q0), .second, .val (.long q1), .second, .val (.long q2), .second, .val (.long q3), .second, .val (.long q4), .second, .val (.long q5), .second, .val (.ref b1), .val (.long mix), .second, .val (.ref b11), .val (.ref b27), .unset, .unset, .unset, .unset, .unset, .unset] [(.int (4 : Int32)), (.ref b33), (.ref b33)])) _
    refine XS.aload X37.here hx rfl (hb hby at_315) rfl rfl ?_
    show Steps p.tables e below (T37.setTop (mkF m 317 #[.val (.long q0), .second, .val (.long q1), .second, .val (.long q2), .second, .val (.long q3), .second, .val (.long q4), .second, .val (.long q5), .second, .val (.ref b1), .val (.long mix), .second, .val (.ref b11), .val (.ref b27), .unset, .unset, .unset, .unset, .unset, .unset] [(.ref b11), (.int (4 : Int32)), (.ref b33), (.ref b33)])) _
    refine XS.iconst X37.here hx rfl (hb hby at_317) ?_
    show Steps p.tables e below (T37.setTop (mkF m 318 #[.val (.long q0), .second, .val (.long q1), .second, .val (.long q2), .second, .val (.long q3), .second, .val (.long q4), .second, .val (.long q5), .second, .val (.ref b1), .val (.long mix), .second, .val (.ref b11), .val (.ref b27), .unset, .unset, .unset, .unset, .unset, .unset] [(.int (4 : Int32)), (.ref b11), (.int (4 : Int32)), (.ref b33), (.ref b33)])) _
    refine own_ldJ X37 hx hZ e37 V_b11_37 (j := (4 : Int32)) (by decide) (v := (.long y24)) rfl (g := (mkF m 318 #[.val (.long q0), .second, .val (.long q1), .second, .val (.long q2), .second, .val (.long q3), .second, .val (.long q4), .second, .val (.long q5), .second, .val (.ref b1), .val (.long mix), .second, .val (.ref b11), .val (.ref b27), .unset, .unset, .unset, .unset, .unset, .unset] [(.int (4 : Int32)), (.ref b11), (.int (4 : Int32)), (.ref b33), (.ref b33)])) rfl rfl (hb hby at_318) _ ?_
    show Steps p.tables e below (T37.setTop (mkF m 319 #[.val (.long q0), .second, .val (.long q1), .second, .val (.long q2), .second, .val (.long q3), .second, .val (.long q4), .second, .val (.long q5), .second, .val (.ref b1), .val (.long mix), .second, .val (.ref b11), .val (.ref b27), .unset, .unset, .unset, .unset, .unset, .unset] [(.long y24), (.int (4 : Int32)), (.ref b33), (.ref b33)])) _
    exact k
  obtain ⟨T38, h38, L38, X38, N38, e38, W38, Y38, st38⟩ := own_stJ X37 hx hZ e37 V_b33_37 (j := (4 : Int32)) (by decide) 4 rfl (Nat.le_of_ble_eq_true rfl) N37 ga_b33 (g := (mkF m 319 #[.val (.long q0), .second, .val (.long q1), .second, .val (.long q2), .second, .val (.long q3), .second, .val (.long q4), .second, .val (.long q5), .second, .val (.ref b1), .val (.long mix), .second, .val (.ref b11), .val (.ref b27), .unset, .unset, .unset, .unset, .unset, .unset] [(.long y24), (.int (4 : Int32)), (.ref b33), (.ref b33)])) rfl rfl (hb hby at_319)
  have V_b1_38 := V_b1_37.other W38 (Nat.ne_of_lt lt_b1_b33)
  have V_b11_38 := V_b11_37.other W38 (Nat.ne_of_lt lt_b11_b33)
  have V_b27_38 := V_b27_37.other W38 (Nat.ne_of_lt lt_b27_b33)
  have V_b33_38 : Arv Z h38 b33 k33 .long (5 : Int32) [(.long w0), (.long w1), (.long w2), (.long w3), (.long y24)] (.long (0 : Int64)) := Y38
  have sz_38 := Nat.le_trans sz_37 (Nat.le_of_eq (Wr.size W38).symm)
  refine own_go (T' := T38) (g' := (mkF m 320 #[.val (.long q0), .second, .val (.long q1), .second, .val (.long q2), .second, .val (.long q3), .second, .val (.long q4), .second, .val (.long q5), .second, .val (.ref b1), .val (.long mix), .second, .val (.ref b11), .val (.ref b27), .unset, .unset, .unset, .unset, .unset, .unset] [(.ref b33)])) st38 ?_
  refine own_go (T' := T38) (g' := (mkF m 323 #[.val (.long q0), .second, .val (.long q1), .second, .val (.long q2), .second, .val (.long q3), .second, .val (.long q4), .second, .val (.long q5), .second, .val (.ref b1), .val (.long mix), .second, .val (.ref b11), .val (.ref b27), .val (.ref b33), .unset, .unset, .unset, .unset, .unset] [(.int (5 : Int32))])) (fun t k => ?_) ?_
  · show Steps p.tables e below (T38.setTop (mkF m 320 #[.val (.long q0), .second, .val (.long q1), .second, .val (.long q2), .second, .val (.long q3), .second, .val (.long q4), .second, .val (.long q5), .second, .val (.ref b1), .val (.long mix), .second, .val (.ref b11), .val (.ref b27), .unset, .unset, .unset, .unset, .unset, .unset] [(.ref b33)])) t
    refine XS.astore X38.here hx rfl (hb hby at_320) rfl rfl (l' := #[.val (.long q0), .second, .val (.long q1), .second, .val (.long q2), .second, .val (.long q3), .second, .val (.long q4), .second, .val (.long q5), .second, .val (.ref b1), .val (.long mix), .second, .val (.ref b11), .val (.ref b27), .val (.ref b33), .unset, .unset, .unset, .unset, .unset]) rfl ?_
    show Steps p.tables e below (T38.setTop (mkF m 322 #[.val (.long q0), .second, .val (.long q1), .second, .val (.long q2), .second, .val (.long q3), .second, .val (.long q4), .second, .val (.long q5), .second, .val (.ref b1), .val (.long mix), .second, .val (.ref b11), .val (.ref b27), .val (.ref b33), .unset, .unset, .unset, .unset, .unset] [])) _
    refine XS.iconst X38.here hx rfl (hb hby at_322) ?_
    show Steps p.tables e below (T38.setTop (mkF m 323 #[.val (.long q0), .second, .val (.long q1), .second, .val (.long q2), .second, .val (.long q3), .second, .val (.long q4), .second, .val (.long q5), .second, .val (.ref b1), .val (.long mix), .second, .val (.ref b11), .val (.ref b27), .val (.ref b33), .unset, .unset, .unset, .unset, .unset] [(.int (5 : Int32))])) _
    exact k
  obtain ⟨T39, h39, k39, b39, g39, X39, e39, E39, A39, st39⟩ := own_new X38 hx hZ (hw _ (List.mem_of_getElem? (i := 0) rfl)) e38 (g := (mkF m 323 #[.val (.long q0), .second, .val (.long q1), .second, .val (.long q2), .second, .val (.long q3), .second, .val (.long q4), .second, .val (.long q5), .second, .val (.ref b1), .val (.long mix), .second, .val (.ref b11), .val (.ref b27), .val (.ref b33), .unset, .unset, .unset, .unset, .unset] [(.int (5 : Int32))])) rfl (hb hby at_323) rfl (by decide) (cap := 5) (by decide) (by decide) (by decide) (by decide)
  have lt_b1_b39 : b1 < b39 := Nat.lt_of_lt_of_le V_b1_38.lt (Nat.le_of_eq g39.symm)
  have lt_b11_b39 : b11 < b39 := Nat.lt_of_lt_of_le V_b11_38.lt (Nat.le_of_eq g39.symm)
  have lt_b27_b39 : b27 < b39 := Nat.lt_of_lt_of_le V_b27_38.lt (Nat.le_of_eq g39.symm)
  have lt_b33_b39 : b33 < b39 := Nat.lt_of_lt_of_le V_b33_38.lt (Nat.le_of_eq g39.symm)
  have ga_b39 : n0 ≤ b39 := Nat.le_trans sz_38 (Nat.le_of_eq g39.symm)
  have sz_39 := Nat.le_trans sz_38 E39.1
  have V_b1_39 := V_b1_38.ext E39
  have V_b11_39 := V_b11_38.ext E39
  have V_b27_39 := V_b27_38.ext E39
  have V_b33_39 := V_b33_38.ext E39
  have V_b39_39 : Arv Z h39 b39 k39 .long (5 : Int32) [(.long (0 : Int64)), (.long (0 : Int64)), (.long (0 : Int64)), (.long (0 : Int64)), (.long (0 : Int64))] (.long (0 : Int64)) := A39.pad (pad_rep [] (.long (0 : Int64)) 5)
  refine own_go (T' := T39) (g' := (mkF m 325 #[.val (.long q0), .second, .val (.long q1), .second, .val (.long q2), .second, .val (.long q3), .second, .val (.long q4), .second, .val (.long q5), .second, .val (.ref b1), .val (.long mix), .second, .val (.ref b11), .val (.ref b27), .val (.ref b33), .unset, .unset, .unset, .unset, .unset] [(.ref b39)])) st39 ?_
  refine own_go (T' := T39) (g' := (mkF m 328 #[.val (.long q0), .second, .val (.long q1), .second, .val (.long q2), .second, .val (.long q3), .second, .val (.long q4), .second, .val (.long q5), .second, .val (.ref b1), .val (.long mix), .second, .val (.ref b11), .val (.ref b27), .val (.ref b33), .val (.ref b39), .unset, .unset, .unset, .unset] [(.int (5 : Int32))])) (fun t k => ?_) ?_
  · show Steps p.tables e below (T39.setTop (mkF m 325 #[.val (.long q0), .second, .val (.long q1), .second, .val (.long q2), .second, .val (.long q3), .second, .val (.long q4), .second, .val (.long q5), .second, .val (.ref b1), .val (.long mix), .second, .val (.ref b11), .val (.ref b27), .val (.ref b33), .unset, .unset, .unset, .unset, .unset] [(.ref b39)])) t
    refine XS.astore X39.here hx rfl (hb hby at_325) rfl rfl (l' := #[.val (.long q0), .second, .val (.long q1), .second, .val (.long q2), .second, .val (.long q3), .second, .val (.long q4), .second, .val (.long q5), .second, .val (.ref b1), .val (.long mix), .second, .val (.ref b11), .val (.ref b27), .val (.ref b33), .val (.ref b39), .unset, .unset, .unset, .unset]) rfl ?_
    show Steps p.tables e below (T39.setTop (mkF m 327 #[.val (.long q0), .second, .val (.long q1), .second, .val (.long q2), .second, .val (.long q3), .second, .val (.long q4), .second, .val (.long q5), .second, .val (.ref b1), .val (.long mix), .second, .val (.ref b11), .val (.ref b27), .val (.ref b33), .val (.ref b39), .unset, .unset, .unset, .unset] [])) _
    refine XS.iconst X39.here hx rfl (hb hby at_327) ?_
    show Steps p.tables e below (T39.setTop (mkF m 328 #[.val (.long q0), .second, .val (.long q1), .second, .val (.long q2), .second, .val (.long q3), .second, .val (.long q4), .second, .val (.long q5), .second, .val (.ref b1), .val (.long mix), .second, .val (.ref b11), .val (.ref b27), .val (.ref b33), .val (.ref b39), .unset, .unset, .unset, .unset] [(.int (5 : Int32))])) _
    exact k
  obtain ⟨T40, h40, k40, b40, g40, X40, e40, E40, A40, st40⟩ := own_new X39 hx hZ (hw _ (List.mem_of_getElem? (i := 0) rfl)) e39 (g := (mkF m 328 #[.val (.long q0), .second, .val (.long q1), .second, .val (.long q2), .second, .val (.long q3), .second, .val (.long q4), .second, .val (.long q5), .second, .val (.ref b1), .val (.long mix), .second, .val (.ref b11), .val (.ref b27), .val (.ref b33), .val (.ref b39), .unset, .unset, .unset, .unset] [(.int (5 : Int32))])) rfl (hb hby at_328) rfl (by decide) (cap := 5) (by decide) (by decide) (by decide) (by decide)
  have lt_b1_b40 : b1 < b40 := Nat.lt_of_lt_of_le V_b1_39.lt (Nat.le_of_eq g40.symm)
  have lt_b11_b40 : b11 < b40 := Nat.lt_of_lt_of_le V_b11_39.lt (Nat.le_of_eq g40.symm)
  have lt_b27_b40 : b27 < b40 := Nat.lt_of_lt_of_le V_b27_39.lt (Nat.le_of_eq g40.symm)
  have lt_b33_b40 : b33 < b40 := Nat.lt_of_lt_of_le V_b33_39.lt (Nat.le_of_eq g40.symm)
  have lt_b39_b40 : b39 < b40 := Nat.lt_of_lt_of_le V_b39_39.lt (Nat.le_of_eq g40.symm)
  have ga_b40 : n0 ≤ b40 := Nat.le_trans sz_39 (Nat.le_of_eq g40.symm)
  have sz_40 := Nat.le_trans sz_39 E40.1
  have V_b1_40 := V_b1_39.ext E40
  have V_b11_40 := V_b11_39.ext E40
  have V_b27_40 := V_b27_39.ext E40
  have V_b33_40 := V_b33_39.ext E40
  have V_b39_40 := V_b39_39.ext E40
  have V_b40_40 : Arv Z h40 b40 k40 .long (5 : Int32) [(.long (0 : Int64)), (.long (0 : Int64)), (.long (0 : Int64)), (.long (0 : Int64)), (.long (0 : Int64))] (.long (0 : Int64)) := A40.pad (pad_rep [] (.long (0 : Int64)) 5)
  refine own_go (T' := T40) (g' := (mkF m 330 #[.val (.long q0), .second, .val (.long q1), .second, .val (.long q2), .second, .val (.long q3), .second, .val (.long q4), .second, .val (.long q5), .second, .val (.ref b1), .val (.long mix), .second, .val (.ref b11), .val (.ref b27), .val (.ref b33), .val (.ref b39), .unset, .unset, .unset, .unset] [(.ref b40)])) st40 ?_
  refine own_go (T' := T40) (g' := (mkF m 351 #[.val (.long q0), .second, .val (.long q1), .second, .val (.long q2), .second, .val (.long q3), .second, .val (.long q4), .second, .val (.long q5), .second, .val (.ref b1), .val (.long mix), .second, .val (.ref b11), .val (.ref b27), .val (.ref b33), .val (.ref b39), .val (.ref b40), .val (.int ((((q5.toUInt64 >>> ((62 : Int32) &&& 0x3f).toInt64.toUInt64).toInt64) &&& (3 : Int64)).toInt32)), .val (.ref b39), .unset] [(.int (1 : Int32)), (.int ((((q5.toUInt64 >>> ((62 : Int32) &&& 0x3f).toInt64.toUInt64).toInt64) &&& (3 : Int64)).toInt32))])) (fun t k => ?_) ?_
  · show Steps p.tables e below (T40.setTop (mkF m 330 #[.val (.long q0), .second, .val (.long q1), .second, .val (.long q2), .second, .val (.long q3), .second, .val (.long q4), .second, .val (.long q5), .second, .val (.ref b1), .val (.long mix), .second, .val (.ref b11), .val (.ref b27), .val (.ref b33), .val (.ref b39), .unset, .unset, .unset, .unset] [(.ref b40)])) t
    refine XS.astore X40.here hx rfl (hb hby at_330) rfl rfl (l' := #[.val (.long q0), .second, .val (.long q1), .second, .val (.long q2), .second, .val (.long q3), .second, .val (.long q4), .second, .val (.long q5), .second, .val (.ref b1), .val (.long mix), .second, .val (.ref b11), .val (.ref b27), .val (.ref b33), .val (.ref b39), .val (.ref b40), .unset, .unset, .unset]) rfl ?_
    show Steps p.tables e below (T40.setTop (mkF m 332 #[.val (.long q0), .second, .val (.long q1), .second, .val (.long q2), .second, .val (.long q3), .second, .val (.long q4), .second, .val (.long q5), .second, .val (.ref b1), .val (.long mix), .second, .val (.ref b11), .val (.ref b27), .val (.ref b33), .val (.ref b39), .val (.ref b40), .unset, .unset, .unset] [])) _
    refine XS.lload X40.here hx rfl (hb hby at_332) rfl ?_
    show Steps p.tables e below (T40.setTop (mkF m 334 #[.val (.long q0), .second, .val (.long q1), .second, .val (.long q2), .second, .val (.long q3), .second, .val (.long q4), .second, .val (.long q5), .second, .val (.ref b1), .val (.long mix), .second, .val (.ref b11), .val (.ref b27), .val (.ref b33), .val (.ref b39), .val (.ref b40), .unset, .unset, .unset] [(.long q5)])) _
    refine XS.bipush X40.here hx rfl (hb hby at_334) ?_
    show Steps p.tables e below (T40.setTop (mkF m 336 #[.val (.long q0), .second, .val (.long q1), .second, .val (.long q2), .second, .val (.long q3), .second, .val (.long q4), .second, .val (.long q5), .second, .val (.ref b1), .val (.long mix), .second, .val (.ref b11), .val (.ref b27), .val (.ref b33), .val (.ref b39), .val (.ref b40), .unset, .unset, .unset] [(.int (62 : Int32)), (.long q5)])) _
    refine XS.lushr X40.here hx rfl (hb hby at_336) rfl ?_
    show Steps p.tables e below (T40.setTop (mkF m 337 #[.val (.long q0), .second, .val (.long q1), .second, .val (.long q2), .second, .val (.long q3), .second, .val (.long q4), .second, .val (.long q5), .second, .val (.ref b1), .val (.long mix), .second, .val (.ref b11), .val (.ref b27), .val (.ref b33), .val (.ref b39), .val (.ref b40), .unset, .unset, .unset] [(.long ((q5.toUInt64 >>> ((62 : Int32) &&& 0x3f).toInt64.toUInt64).toInt64))])) _
    refine X40.ldc2Long hx hown (mvT hZ (hw _ (List.mem_of_getElem? (i := 8) rfl))) (g := (mkF m 337 #[.val (.long q0), .second, .val (.long q1), .second, .val (.long q2), .second, .val (.long q3), .second, .val (.long q4), .second, .val (.long q5), .second, .val (.ref b1), .val (.long mix), .second, .val (.ref b11), .val (.ref b27), .val (.ref b33), .val (.ref b39), .val (.ref b40), .unset, .unset, .unset] [(.long ((q5.toUInt64 >>> ((62 : Int32) &&& 0x3f).toInt64.toUInt64).toInt64))])) rfl (hb hby at_337) _ ?_
    show Steps p.tables e below (T40.setTop (mkF m 340 #[.val (.long q0), .second, .val (.long q1), .second, .val (.long q2), .second, .val (.long q3), .second, .val (.long q4), .second, .val (.long q5), .second, .val (.ref b1), .val (.long mix), .second, .val (.ref b11), .val (.ref b27), .val (.ref b33), .val (.ref b39), .val (.ref b40), .unset, .unset, .unset] [(.long (3 : Int64)), (.long ((q5.toUInt64 >>> ((62 : Int32) &&& 0x3f).toInt64.toUInt64).toInt64))])) _
    refine XS.land X40.here hx rfl (hb hby at_340) rfl ?_
    show Steps p.tables e below (T40.setTop (mkF m 341 #[.val (.long q0), .second, .val (.long q1), .second, .val (.long q2), .second, .val (.long q3), .second, .val (.long q4), .second, .val (.long q5), .second, .val (.ref b1), .val (.long mix), .second, .val (.ref b11), .val (.ref b27), .val (.ref b33), .val (.ref b39), .val (.ref b40), .unset, .unset, .unset] [(.long (((q5.toUInt64 >>> ((62 : Int32) &&& 0x3f).toInt64.toUInt64).toInt64) &&& (3 : Int64)))])) _
    refine XS.l2i X40.here hx rfl (hb hby at_341) rfl ?_
    show Steps p.tables e below (T40.setTop (mkF m 342 #[.val (.long q0), .second, .val (.long q1), .second, .val (.long q2), .second, .val (.long q3), .second, .val (.long q4), .second, .val (.long q5), .second, .val (.ref b1), .val (.long mix), .second, .val (.ref b11), .val (.ref b27), .val (.ref b33), .val (.ref b39), .val (.ref b40), .unset, .unset, .unset] [(.int ((((q5.toUInt64 >>> ((62 : Int32) &&& 0x3f).toInt64.toUInt64).toInt64) &&& (3 : Int64)).toInt32))])) _
    refine XS.istore X40.here hx rfl (hb hby at_342) rfl (l' := #[.val (.long q0), .second, .val (.long q1), .second, .val (.long q2), .second, .val (.long q3), .second, .val (.long q4), .second, .val (.long q5), .second, .val (.ref b1), .val (.long mix), .second, .val (.ref b11), .val (.ref b27), .val (.ref b33), .val (.ref b39), .val (.ref b40), .val (.int ((((q5.toUInt64 >>> ((62 : Int32) &&& 0x3f).toInt64.toUInt64).toInt64) &&& (3 : Int64)).toInt32)), .unset, .unset]) rfl ?_
    show Steps p.tables e below (T40.setTop (mkF m 344 #[.val (.long q0), .second, .val (.long q1), .second, .val (.long q2), .second, .val (.long q3), .second, .val (.long q4), .second, .val (.long q5), .second, .val (.ref b1), .val (.long mix), .second, .val (.ref b11), .val (.ref b27), .val (.ref b33), .val (.ref b39), .val (.ref b40), .val (.int ((((q5.toUInt64 >>> ((62 : Int32) &&& 0x3f).toInt64.toUInt64).toInt64) &&& (3 : Int64)).toInt32)), .unset, .unset] [])) _
    refine XS.aload X40.here hx rfl (hb hby at_344) rfl rfl ?_
    show Steps p.tables e below (T40.setTop (mkF m 346 #[.val (.long q0), .second, .val (.long q1), .second, .val (.long q2), .second, .val (.long q3), .second, .val (.long q4), .second, .val (.long q5), .second, .val (.ref b1), .val (.long mix), .second, .val (.ref b11), .val (.ref b27), .val (.ref b33), .val (.ref b39), .val (.ref b40), .val (.int ((((q5.toUInt64 >>> ((62 : Int32) &&& 0x3f).toInt64.toUInt64).toInt64) &&& (3 : Int64)).toInt32)), .unset, .unset] [(.ref b39)])) _
    refine XS.astore X40.here hx rfl (hb hby at_346) rfl rfl (l' := #[.val (.long q0), .second, .val (.long q1), .second, .val (.long q2), .second, .val (.long q3), .second, .val (.long q4), .second, .val (.long q5), .second, .val (.ref b1), .val (.long mix), .second, .val (.ref b11), .val (.ref b27), .val (.ref b33), .val (.ref b39), .val (.ref b40), .val (.int ((((q5.toUInt64 >>> ((62 : Int32) &&& 0x3f).toInt64.toUInt64).toInt64) &&& (3 : Int64)).toInt32)), .val (.ref b39), .unset]) rfl ?_
    show Steps p.tables e below (T40.setTop (mkF m 348 #[.val (.long q0), .second, .val (.long q1), .second, .val (.long q2), .second, .val (.long q3), .second, .val (.long q4), .second, .val (.long q5), .second, .val (.ref b1), .val (.long mix), .second, .val (.ref b11), .val (.ref b27), .val (.ref b33), .val (.ref b39), .val (.ref b40), .val (.int ((((q5.toUInt64 >>> ((62 : Int32) &&& 0x3f).toInt64.toUInt64).toInt64) &&& (3 : Int64)).toInt32)), .val (.ref b39), .unset] [])) _
    refine XS.iload X40.here hx rfl (hb hby at_348) rfl ?_
    show Steps p.tables e below (T40.setTop (mkF m 350 #[.val (.long q0), .second, .val (.long q1), .second, .val (.long q2), .second, .val (.long q3), .second, .val (.long q4), .second, .val (.long q5), .second, .val (.ref b1), .val (.long mix), .second, .val (.ref b11), .val (.ref b27), .val (.ref b33), .val (.ref b39), .val (.ref b40), .val (.int ((((q5.toUInt64 >>> ((62 : Int32) &&& 0x3f).toInt64.toUInt64).toInt64) &&& (3 : Int64)).toInt32)), .val (.ref b39), .unset] [(.int ((((q5.toUInt64 >>> ((62 : Int32) &&& 0x3f).toInt64.toUInt64).toInt64) &&& (3 : Int64)).toInt32))])) _
    refine XS.iconst X40.here hx rfl (hb hby at_350) ?_
    show Steps p.tables e below (T40.setTop (mkF m 351 #[.val (.long q0), .second, .val (.long q1), .second, .val (.long q2), .second, .val (.long q3), .second, .val (.long q4), .second, .val (.long q5), .second, .val (.ref b1), .val (.long mix), .second, .val (.ref b11), .val (.ref b27), .val (.ref b33), .val (.ref b39), .val (.ref b40), .val (.int ((((q5.toUInt64 >>> ((62 : Int32) &&& 0x3f).toInt64.toUInt64).toInt64) &&& (3 : Int64)).toInt32)), .val (.ref b39), .unset] [(.int (1 : Int32)), (.int ((((q5.toUInt64 >>> ((62 : Int32) &&& 0x3f).toInt64.toUInt64).toInt64) &&& (3 : Int64)).toInt32))])) _
    exact k
  have Ha := own_inA h_x0 h_x1 h_x2 h_x3 h_x4 h_y8
  have Hb := own_inB h_w0 h_w1 h_w2 h_w3 h_w4 h_w5 h_y24 Ha h_mix
  by_cases hc351_41 : ((((q5.toUInt64 >>> ((62 : Int32) &&& 0x3f).toInt64.toUInt64).toInt64) &&& (3 : Int64)).toInt32) = (1 : Int32)
  · refine own_go (T' := T40) (g' := (mkF m 354 #[.val (.long q0), .second, .val (.long q1), .second, .val (.long q2), .second, .val (.long q3), .second, .val (.long q4), .second, .val (.long q5), .second, .val (.ref b1), .val (.long mix), .second, .val (.ref b11), .val (.ref b27), .val (.ref b33), .val (.ref b39), .val (.ref b40), .val (.int ((((q5.toUInt64 >>> ((62 : Int32) &&& 0x3f).toInt64.toUInt64).toInt64) &&& (3 : Int64)).toInt32)), .val (.ref b39), .unset] [])) (fun t k => ?_) ?_
    · refine XS.icmpNo X40.here hx rfl (hb hby at_351) rfl (teq hc351_41).2 ?_
      exact k
    refine own_go (T' := T40) (g' := (mkF m 377 #[.val (.long q0), .second, .val (.long q1), .second, .val (.long q2), .second, .val (.long q3), .second, .val (.long q4), .second, .val (.long q5), .second, .val (.ref b1), .val (.long mix), .second, .val (.ref b11), .val (.ref b27), .val (.ref b33), .val (.ref b39), .val (.ref b40), .val (.int ((((q5.toUInt64 >>> ((62 : Int32) &&& 0x3f).toInt64.toUInt64).toInt64) &&& (3 : Int64)).toInt32)), .val (.ref b27), .unset] [(.ref b33), (.ref b27), (.ref b27)])) (fun t k => ?_) ?_
    · show Steps p.tables e below (T40.setTop (mkF m 354 #[.val (.long q0), .second, .val (.long q1), .second, .val (.long q2), .second, .val (.long q3), .second, .val (.long q4), .second, .val (.long q5), .second, .val (.ref b1), .val (.long mix), .second, .val (.ref b11), .val (.ref b27), .val (.ref b33), .val (.ref b39), .val (.ref b40), .val (.int ((((q5.toUInt64 >>> ((62 : Int32) &&& 0x3f).toInt64.toUInt64).toInt64) &&& (3 : Int64)).toInt32)), .val (.ref b39), .unset] [])) t
      refine XS.aload X40.here hx rfl (hb hby at_354) rfl rfl ?_
      show Steps p.tables e below (T40.setTop (mkF m 356 #[.val (.long q0), .second, .val (.long q1), .second, .val (.long q2), .second, .val (.long q3), .second, .val (.long q4), .second, .val (.long q5), .second, .val (.ref b1), .val (.long mix), .second, .val (.ref b11), .val (.ref b27), .val (.ref b33), .val (.ref b39), .val (.ref b40), .val (.int ((((q5.toUInt64 >>> ((62 : Int32) &&& 0x3f).toInt64.toUInt64).toInt64) &&& (3 : Int64)).toInt32)), .val (.ref b39), .unset] [(.ref b27)])) _
      refine XS.astore X40.here hx rfl (hb hby at_356) rfl rfl (l' := #[.val (.long q0), .second, .val (.long q1), .second, .val (.long q2), .second, .val (.long q3), .second, .val (.long q4), .second, .val (.long q5), .second, .val (.ref b1), .val (.long mix), .second, .val (.ref b11), .val (.ref b27), .val (.ref b33), .val (.ref b39), .val (.ref b40), .val (.int ((((q5.toUInt64 >>> ((62 : Int32) &&& 0x3f).toInt64.toUInt64).toInt64) &&& (3 : Int64)).toInt32)), .val (.ref b27), .unset]) rfl ?_
      show Steps p.tables e below (T40.setTop (mkF m 358 #[.val (.long q0), .second, .val (.long q1), .second, .val (.long q2), .second, .val (.long q3), .second, .val (.long q4), .second, .val (.long q5), .second, .val (.ref b1), .val (.long mix), .second, .val (.ref b11), .val (.ref b27), .val (.ref b33), .val (.ref b39), .val (.ref b40), .val (.int ((((q5.toUInt64 >>> ((62 : Int32) &&& 0x3f).toInt64.toUInt64).toInt64) &&& (3 : Int64)).toInt32)), .val (.ref b27), .unset] [])) _
      refine XS.goto X40.here hx rfl (pc0 := 358) (pc' := 371) rfl (hb hby at_358) (by decide) (by decide) ?_
      show Steps p.tables e below (T40.setTop (mkF m 371 #[.val (.long q0), .second, .val (.long q1), .second, .val (.long q2), .second, .val (.long q3), .second, .val (.long q4), .second, .val (.long q5), .second, .val (.ref b1), .val (.long mix), .second, .val (.ref b11), .val (.ref b27), .val (.ref b33), .val (.ref b39), .val (.ref b40), .val (.int ((((q5.toUInt64 >>> ((62 : Int32) &&& 0x3f).toInt64.toUInt64).toInt64) &&& (3 : Int64)).toInt32)), .val (.ref b27), .unset] [])) _
      refine XS.aload X40.here hx rfl (hb hby at_371) rfl rfl ?_
      show Steps p.tables e below (T40.setTop (mkF m 373 #[.val (.long q0), .second, .val (.long q1), .second, .val (.long q2), .second, .val (.long q3), .second, .val (.long q4), .second, .val (.long q5), .second, .val (.ref b1), .val (.long mix), .second, .val (.ref b11), .val (.ref b27), .val (.ref b33), .val (.ref b39), .val (.ref b40), .val (.int ((((q5.toUInt64 >>> ((62 : Int32) &&& 0x3f).toInt64.toUInt64).toInt64) &&& (3 : Int64)).toInt32)), .val (.ref b27), .unset] [(.ref b27)])) _
      refine XS.aload X40.here hx rfl (hb hby at_373) rfl rfl ?_
      show Steps p.tables e below (T40.setTop (mkF m 375 #[.val (.long q0), .second, .val (.long q1), .second, .val (.long q2), .second, .val (.long q3), .second, .val (.long q4), .second, .val (.long q5), .second, .val (.ref b1), .val (.long mix), .second, .val (.ref b11), .val (.ref b27), .val (.ref b33), .val (.ref b39), .val (.ref b40), .val (.int ((((q5.toUInt64 >>> ((62 : Int32) &&& 0x3f).toInt64.toUInt64).toInt64) &&& (3 : Int64)).toInt32)), .val (.ref b27), .unset] [(.ref b27), (.ref b27)])) _
      refine XS.aload X40.here hx rfl (hb hby at_375) rfl rfl ?_
      show Steps p.tables e below (T40.setTop (mkF m 377 #[.val (.long q0), .second, .val (.long q1), .second, .val (.long q2), .second, .val (.long q3), .second, .val (.long q4), .second, .val (.long q5), .second, .val (.ref b1), .val (.long mix), .second, .val (.ref b11), .val (.ref b27), .val (.ref b33), .val (.ref b39), .val (.ref b40), .val (.int ((((q5.toUInt64 >>> ((62 : Int32) &&& 0x3f).toInt64.toUInt64).toInt64) &&& (3 : Int64)).toInt32)), .val (.ref b27), .unset] [(.ref b33), (.ref b27), (.ref b27)])) _
      exact k
    obtain ⟨_, T42, L42, X42, N42, ⟨rfl, K42, Gt0, Gt1, Gt2, Gt3, Gt4, Gm1, Gu0, Gu1, Gu2, Gu3, Gu4, E42, V42⟩, st42⟩ := own_callS X40 hx hZ hown (hw _ (List.mem_of_getElem? (i := 14) rfl)) (hw _ (List.mem_of_getElem? (i := 15) rfl)) (hw _ (List.mem_of_getElem? (i := 16) rfl)) (hw _ (List.mem_of_getElem? (i := 17) rfl)) (by decide) (argsL := [(.ref b27), (.ref b27), (.ref b33)]) (rest := []) (rm3 l Z a0 hw b27 b27 b33 k27 k27 k33 x0 x1 x2 x3 y8 x0 x1 x2 x3 y8 w0 w1 w2 w3 y24 h40 n0 sz_40 ga_b27 V_b27_40 V_b27_40 V_b33_40) (W := 0) (by decide) (by decide) (g := (mkF m 377 #[.val (.long q0), .second, .val (.long q1), .second, .val (.long q2), .second, .val (.long q3), .second, .val (.long q4), .second, .val (.long q5), .second, .val (.ref b1), .val (.long mix), .second, .val (.ref b11), .val (.ref b27), .val (.ref b33), .val (.ref b39), .val (.ref b40), .val (.int ((((q5.toUInt64 >>> ((62 : Int32) &&& 0x3f).toInt64.toUInt64).toInt64) &&& (3 : Int64)).toInt32)), .val (.ref b27), .unset] [(.ref b33), (.ref b27), (.ref b27)])) rfl (by rw [hml]; rfl) pd_3 rfl rfl (by show 2 * 0 + _ ≤ _; exact Nat.le_of_eq rfl) (hb hby at_377) e40 (by decide) (by decide) N38
    have V_b1_42 := V_b1_40.keep K42 (ninS (Nat.ne_of_lt lt_b1_b27) nin0)
    have V_b11_42 := V_b11_40.keep K42 (ninS (Nat.ne_of_lt lt_b11_b27) nin0)
    have V_b33_42 := V_b33_40.keep K42 (ninS (Nat.ne_of_gt lt_b27_b33) nin0)
    have V_b39_42 := V_b39_40.keep K42 (ninS (Nat.ne_of_gt lt_b27_b39) nin0)
    have V_b40_42 := V_b40_40.keep K42 (ninS (Nat.ne_of_gt lt_b27_b40) nin0)
    have sz_42 := Nat.le_trans sz_40 K42.1
    refine own_go (T' := T42) (g' := (mkF m 380 #[.val (.long q0), .second, .val (.long q1), .second, .val (.long q2), .second, .val (.long q3), .second, .val (.long q4), .second, .val (.long q5), .second, .val (.ref b1), .val (.long mix), .second, .val (.ref b11), .val (.ref b27), .val (.ref b33), .val (.ref b39), .val (.ref b40), .val (.int ((((q5.toUInt64 >>> ((62 : Int32) &&& 0x3f).toInt64.toUInt64).toInt64) &&& (3 : Int64)).toInt32)), .val (.ref b27), .unset] [])) st42 ?_
    have Hr := own_main1 Ha Hb E42
    refine own_go (T' := T42) (g' := (mkF m 382 #[.val (.long q0), .second, .val (.long q1), .second, .val (.long q2), .second, .val (.long q3), .second, .val (.long q4), .second, .val (.long q5), .second, .val (.ref b1), .val (.long mix), .second, .val (.ref b11), .val (.ref b27), .val (.ref b33), .val (.ref b39), .val (.ref b40), .val (.int ((((q5.toUInt64 >>> ((62 : Int32) &&& 0x3f).toInt64.toUInt64).toInt64) &&& (3 : Int64)).toInt32)), .val (.ref b27), .unset] [(.ref b27)])) (fun t k => ?_) ?_
    · show Steps p.tables e below (T42.setTop (mkF m 380 #[.val (.long q0), .second, .val (.long q1), .second, .val (.long q2), .second, .val (.long q3), .second, .val (.long q4), .second, .val (.long q5), .second, .val (.ref b1), .val (.long mix), .second, .val (.ref b11), .val (.ref b27), .val (.ref b33), .val (.ref b39), .val (.ref b40), .val (.int ((((q5.toUInt64 >>> ((62 : Int32) &&& 0x3f).toInt64.toUInt64).toInt64) &&& (3 : Int64)).toInt32)), .val (.ref b27), .unset] [])) t
      refine XS.aload X42.here hx rfl (hb hby at_380) rfl rfl ?_
      show Steps p.tables e below (T42.setTop (mkF m 382 #[.val (.long q0), .second, .val (.long q1), .second, .val (.long q2), .second, .val (.long q3), .second, .val (.long q4), .second, .val (.long q5), .second, .val (.ref b1), .val (.long mix), .second, .val (.ref b11), .val (.ref b27), .val (.ref b33), .val (.ref b39), .val (.ref b40), .val (.int ((((q5.toUInt64 >>> ((62 : Int32) &&& 0x3f).toInt64.toUInt64).toInt64) &&& (3 : Int64)).toInt32)), .val (.ref b27), .unset] [(.ref b27)])) _
      exact k
    obtain ⟨_, T43, L43, X43, N43, ⟨rfl, e43⟩, st43⟩ := own_callS X42 hx hZ hown (hw _ (List.mem_of_getElem? (i := 22) rfl)) (hw _ (List.mem_of_getElem? (i := 23) rfl)) (hw _ (List.mem_of_getElem? (i := 5) rfl)) (hw _ (List.mem_of_getElem? (i := 24) rfl)) (by decide) (argsL := [(.ref b27)]) (rest := []) (rm4 l Z a0 hw b27 k27 (Gu0 &&& (4503599627370495 : Int64)) (Gu1 &&& (4503599627370495 : Int64)) (Gu2 &&& (4503599627370495 : Int64)) (Gu3 &&& (4503599627370495 : Int64)) Gu4 T42.heap n0 V42) (W := 0) (by decide) (by decide) (g := (mkF m 382 #[.val (.long q0), .second, .val (.long q1), .second, .val (.long q2), .second, .val (.long q3), .second, .val (.long q4), .second, .val (.long q5), .second, .val (.ref b1), .val (.long mix), .second, .val (.ref b11), .val (.ref b27), .val (.ref b33), .val (.ref b39), .val (.ref b40), .val (.int ((((q5.toUInt64 >>> ((62 : Int32) &&& 0x3f).toInt64.toUInt64).toInt64) &&& (3 : Int64)).toInt32)), .val (.ref b27), .unset] [(.ref b27)])) rfl (by rw [hml]; rfl) pd_1 rfl rfl (by show 2 * 0 + _ ≤ _; exact Nat.le_of_eq rfl) (hb hby at_382) rfl (by decide) (by decide) N42
    refine own_go (T' := T43) (g' := (mkF m 385 #[.val (.long q0), .second, .val (.long q1), .second, .val (.long q2), .second, .val (.long q3), .second, .val (.long q4), .second, .val (.long q5), .second, .val (.ref b1), .val (.long mix), .second, .val (.ref b11), .val (.ref b27), .val (.ref b33), .val (.ref b39), .val (.ref b40), .val (.int ((((q5.toUInt64 >>> ((62 : Int32) &&& 0x3f).toInt64.toUInt64).toInt64) &&& (3 : Int64)).toInt32)), .val (.ref b27), .unset] [(.int (f4_0 (Gu0 &&& (4503599627370495 : Int64)) (Gu1 &&& (4503599627370495 : Int64)) (Gu2 &&& (4503599627370495 : Int64)) (Gu3 &&& (4503599627370495 : Int64)) Gu4))])) st43 ?_
    refine own_go (T' := T43) (g' := (mkF m 390 #[.val (.long q0), .second, .val (.long q1), .second, .val (.long q2), .second, .val (.long q3), .second, .val (.long q4), .second, .val (.long q5), .second, .val (.ref b1), .val (.long mix), .second, .val (.ref b11), .val (.ref b27), .val (.ref b33), .val (.ref b39), .val (.ref b40), .val (.int ((((q5.toUInt64 >>> ((62 : Int32) &&& 0x3f).toInt64.toUInt64).toInt64) &&& (3 : Int64)).toInt32)), .val (.ref b27), .unset] [(.ref b27)])) (fun t k => ?_) ?_
    · show Steps p.tables e below (T43.setTop (mkF m 385 #[.val (.long q0), .second, .val (.long q1), .second, .val (.long q2), .second, .val (.long q3), .second, .val (.long q4), .second, .val (.long q5), .second, .val (.ref b1), .val (.long mix), .second, .val (.ref b11), .val (.ref b27), .val (.ref b33), .val (.ref b39), .val (.ref b40), .val (.int ((((q5.toUInt64 >>> ((62 : Int32) &&& 0x3f).toInt64.toUInt64).toInt64) &&& (3 : Int64)).toInt32)), .val (.ref b27), .unset] [(.int (f4_0 (Gu0 &&& (4503599627370495 : Int64)) (Gu1 &&& (4503599627370495 : Int64)) (Gu2 &&& (4503599627370495 : Int64)) (Gu3 &&& (4503599627370495 : Int64)) Gu4))])) t
      refine XS.ifNo X43.here hx rfl (hb hby at_385) rfl ((if0 _ _).trans (feq Hr.1).1) ?_
      show Steps p.tables e below (T43.setTop (mkF m 388 #[.val (.long q0), .second, .val (.long q1), .second, .val (.long q2), .second, .val (.long q3), .second, .val (.long q4), .second, .val (.long q5), .second, .val (.ref b1), .val (.long mix), .second, .val (.ref b11), .val (.ref b27), .val (.ref b33), .val (.ref b39), .val (.ref b40), .val (.int ((((q5.toUInt64 >>> ((62 : Int32) &&& 0x3f).toInt64.toUInt64).toInt64) &&& (3 : Int64)).toInt32)), .val (.ref b27), .unset] [])) _
      refine XS.aload X43.here hx rfl (hb hby at_388) rfl rfl ?_
      show Steps p.tables e below (T43.setTop (mkF m 390 #[.val (.long q0), .second, .val (.long q1), .second, .val (.long q2), .second, .val (.long q3), .second, .val (.long q4), .second, .val (.long q5), .second, .val (.ref b1), .val (.long mix), .second, .val (.ref b11), .val (.ref b27), .val (.ref b33), .val (.ref b39), .val (.ref b40), .val (.int ((((q5.toUInt64 >>> ((62 : Int32) &&& 0x3f).toInt64.toUInt64).toInt64) &&& (3 : Int64)).toInt32)), .val (.ref b27), .unset] [(.ref b27)])) _
      exact k
    obtain ⟨_, T44, L44, X44, N44, ⟨rfl, e44⟩, st44⟩ := own_callS X43 hx hZ hown (hw _ (List.mem_of_getElem? (i := 3) rfl)) (hw _ (List.mem_of_getElem? (i := 4) rfl)) (hw _ (List.mem_of_getElem? (i := 5) rfl)) (hw _ (List.mem_of_getElem? (i := 6) rfl)) (by decide) (argsL := [(.ref b27)]) (rest := []) (rm1 l Z a0 hw b27 k27 (Gu0 &&& (4503599627370495 : Int64)) (Gu1 &&& (4503599627370495 : Int64)) (Gu2 &&& (4503599627370495 : Int64)) (Gu3 &&& (4503599627370495 : Int64)) Gu4 T42.heap n0 V42) (W := 0) (by decide) (by decide) (g := (mkF m 390 #[.val (.long q0), .second, .val (.long q1), .second, .val (.long q2), .second, .val (.long q3), .second, .val (.long q4), .second, .val (.long q5), .second, .val (.ref b1), .val (.long mix), .second, .val (.ref b11), .val (.ref b27), .val (.ref b33), .val (.ref b39), .val (.ref b40), .val (.int ((((q5.toUInt64 >>> ((62 : Int32) &&& 0x3f).toInt64.toUInt64).toInt64) &&& (3 : Int64)).toInt32)), .val (.ref b27), .unset] [(.ref b27)])) rfl (by rw [hml]; rfl) pd_1 rfl rfl (by show 2 * 0 + _ ≤ _; exact Nat.le_of_eq rfl) (hb hby at_390) e43 (by decide) (by decide) N43
    refine own_go (T' := T44) (g' := (mkF m 393 #[.val (.long q0), .second, .val (.long q1), .second, .val (.long q2), .second, .val (.long q3), .second, .val (.long q4), .second, .val (.long q5), .second, .val (.ref b1), .val (.long mix), .second, .val (.ref b11), .val (.ref b27), .val (.ref b33), .val (.ref b39), .val (.ref b40), .val (.int ((((q5.toUInt64 >>> ((62 : Int32) &&& 0x3f).toInt64.toUInt64).toInt64) &&& (3 : Int64)).toInt32)), .val (.ref b27), .unset] [(.int (f1_0 (Gu0 &&& (4503599627370495 : Int64)) (Gu1 &&& (4503599627370495 : Int64)) (Gu2 &&& (4503599627370495 : Int64)) (Gu3 &&& (4503599627370495 : Int64)) Gu4))])) st44 ?_
    refine own_go (T' := T44) (g' := (mkF m 409 #[.val (.long q0), .second, .val (.long q1), .second, .val (.long q2), .second, .val (.long q3), .second, .val (.long q4), .second, .val (.long q5), .second, .val (.ref b1), .val (.long mix), .second, .val (.ref b11), .val (.ref b27), .val (.ref b33), .val (.ref b39), .val (.ref b40), .val (.int ((((q5.toUInt64 >>> ((62 : Int32) &&& 0x3f).toInt64.toUInt64).toInt64) &&& (3 : Int64)).toInt32)), .val (.ref b27), .val (.int (1 : Int32))] [(.ref b11), (.ref b27), (.ref b40)])) (fun t k => ?_) ?_
    · show Steps p.tables e below (T44.setTop (mkF m 393 #[.val (.long q0), .second, .val (.long q1), .second, .val (.long q2), .second, .val (.long q3), .second, .val (.long q4), .second, .val (.long q5), .second, .val (.ref b1), .val (.long mix), .second, .val (.ref b11), .val (.ref b27), .val (.ref b33), .val (.ref b39), .val (.ref b40), .val (.int ((((q5.toUInt64 >>> ((62 : Int32) &&& 0x3f).toInt64.toUInt64).toInt64) &&& (3 : Int64)).toInt32)), .val (.ref b27), .unset] [(.int (f1_0 (Gu0 &&& (4503599627370495 : Int64)) (Gu1 &&& (4503599627370495 : Int64)) (Gu2 &&& (4503599627370495 : Int64)) (Gu3 &&& (4503599627370495 : Int64)) Gu4))])) t
      refine XS.ifNo X44.here hx rfl (hb hby at_393) rfl ((if0 _ _).trans (feq Hr.2.1).1) ?_
      show Steps p.tables e below (T44.setTop (mkF m 396 #[.val (.long q0), .second, .val (.long q1), .second, .val (.long q2), .second, .val (.long q3), .second, .val (.long q4), .second, .val (.long q5), .second, .val (.ref b1), .val (.long mix), .second, .val (.ref b11), .val (.ref b27), .val (.ref b33), .val (.ref b39), .val (.ref b40), .val (.int ((((q5.toUInt64 >>> ((62 : Int32) &&& 0x3f).toInt64.toUInt64).toInt64) &&& (3 : Int64)).toInt32)), .val (.ref b27), .unset] [])) _
      refine XS.iconst X44.here hx rfl (hb hby at_396) ?_
      show Steps p.tables e below (T44.setTop (mkF m 397 #[.val (.long q0), .second, .val (.long q1), .second, .val (.long q2), .second, .val (.long q3), .second, .val (.long q4), .second, .val (.long q5), .second, .val (.ref b1), .val (.long mix), .second, .val (.ref b11), .val (.ref b27), .val (.ref b33), .val (.ref b39), .val (.ref b40), .val (.int ((((q5.toUInt64 >>> ((62 : Int32) &&& 0x3f).toInt64.toUInt64).toInt64) &&& (3 : Int64)).toInt32)), .val (.ref b27), .unset] [(.int (1 : Int32))])) _
      refine XS.goto X44.here hx rfl (pc0 := 397) (pc' := 401) rfl (hb hby at_397) (by decide) (by decide) ?_
      show Steps p.tables e below (T44.setTop (mkF m 401 #[.val (.long q0), .second, .val (.long q1), .second, .val (.long q2), .second, .val (.long q3), .second, .val (.long q4), .second, .val (.long q5), .second, .val (.ref b1), .val (.long mix), .second, .val (.ref b11), .val (.ref b27), .val (.ref b33), .val (.ref b39), .val (.ref b40), .val (.int ((((q5.toUInt64 >>> ((62 : Int32) &&& 0x3f).toInt64.toUInt64).toInt64) &&& (3 : Int64)).toInt32)), .val (.ref b27), .unset] [(.int (1 : Int32))])) _
      refine XS.istore X44.here hx rfl (hb hby at_401) rfl (l' := #[.val (.long q0), .second, .val (.long q1), .second, .val (.long q2), .second, .val (.long q3), .second, .val (.long q4), .second, .val (.long q5), .second, .val (.ref b1), .val (.long mix), .second, .val (.ref b11), .val (.ref b27), .val (.ref b33), .val (.ref b39), .val (.ref b40), .val (.int ((((q5.toUInt64 >>> ((62 : Int32) &&& 0x3f).toInt64.toUInt64).toInt64) &&& (3 : Int64)).toInt32)), .val (.ref b27), .val (.int (1 : Int32))]) rfl ?_
      show Steps p.tables e below (T44.setTop (mkF m 403 #[.val (.long q0), .second, .val (.long q1), .second, .val (.long q2), .second, .val (.long q3), .second, .val (.long q4), .second, .val (.long q5), .second, .val (.ref b1), .val (.long mix), .second, .val (.ref b11), .val (.ref b27), .val (.ref b33), .val (.ref b39), .val (.ref b40), .val (.int ((((q5.toUInt64 >>> ((62 : Int32) &&& 0x3f).toInt64.toUInt64).toInt64) &&& (3 : Int64)).toInt32)), .val (.ref b27), .val (.int (1 : Int32))] [])) _
      refine XS.aload X44.here hx rfl (hb hby at_403) rfl rfl ?_
      show Steps p.tables e below (T44.setTop (mkF m 405 #[.val (.long q0), .second, .val (.long q1), .second, .val (.long q2), .second, .val (.long q3), .second, .val (.long q4), .second, .val (.long q5), .second, .val (.ref b1), .val (.long mix), .second, .val (.ref b11), .val (.ref b27), .val (.ref b33), .val (.ref b39), .val (.ref b40), .val (.int ((((q5.toUInt64 >>> ((62 : Int32) &&& 0x3f).toInt64.toUInt64).toInt64) &&& (3 : Int64)).toInt32)), .val (.ref b27), .val (.int (1 : Int32))] [(.ref b40)])) _
      refine XS.aload X44.here hx rfl (hb hby at_405) rfl rfl ?_
      show Steps p.tables e below (T44.setTop (mkF m 407 #[.val (.long q0), .second, .val (.long q1), .second, .val (.long q2), .second, .val (.long q3), .second, .val (.long q4), .second, .val (.long q5), .second, .val (.ref b1), .val (.long mix), .second, .val (.ref b11), .val (.ref b27), .val (.ref b33), .val (.ref b39), .val (.ref b40), .val (.int ((((q5.toUInt64 >>> ((62 : Int32) &&& 0x3f).toInt64.toUInt64).toInt64) &&& (3 : Int64)).toInt32)), .val (.ref b27), .val (.int (1 : Int32))] [(.ref b27), (.ref b40)])) _
      refine XS.aload X44.here hx rfl (hb hby at_407) rfl rfl ?_
      show Steps p.tables e below (T44.setTop (mkF m 409 #[.val (.long q0), .second, .val (.long q1), .second, .val (.long q2), .second, .val (.long q3), .second, .val (.long q4), .second, .val (.long q5), .second, .val (.ref b1), .val (.long mix), .second, .val (.ref b11), .val (.ref b27), .val (.ref b33), .val (.ref b39), .val (.ref b40), .val (.int ((((q5.toUInt64 >>> ((62 : Int32) &&& 0x3f).toInt64.toUInt64).toInt64) &&& (3 : Int64)).toInt32)), .val (.ref b27), .val (.int (1 : Int32))] [(.ref b11), (.ref b27), (.ref b40)])) _
      exact k
    obtain ⟨_, T45, L45, X45, N45, ⟨rfl, K45, Ht0, Ht1, Ht2, Ht3, Ht4, Hs0, Hs1, Hs2, Hs3, Hs4, Hm2, E45, G45, V45⟩, st45⟩ := own_callS X44 hx hZ hown (hw _ (List.mem_of_getElem? (i := 25) rfl)) (hw _ (List.mem_of_getElem? (i := 26) rfl)) (hw _ (List.mem_of_getElem? (i := 16) rfl)) (hw _ (List.mem_of_getElem? (i := 27) rfl)) (by decide) (argsL := [(.ref b40), (.ref b27), (.ref b11)]) (rest := []) (rm5 l Z a0 hw b40 b27 b11 k40 k27 k11 (0 : Int64) (0 : Int64) (0 : Int64) (0 : Int64) (0 : Int64) (Gu0 &&& (4503599627370495 : Int64)) (Gu1 &&& (4503599627370495 : Int64)) (Gu2 &&& (4503599627370495 : Int64)) (Gu3 &&& (4503599627370495 : Int64)) Gu4 w0 w1 w2 w3 y24 T42.heap n0 sz_42 ga_b40 V_b40_42 V42 V_b11_42) (W := 0) (by decide) (by decide) (g := (mkF m 409 #[.val (.long q0), .second, .val (.long q1), .second, .val (.long q2), .second, .val (.long q3), .second, .val (.long q4), .second, .val (.long q5), .second, .val (.ref b1), .val (.long mix), .second, .val (.ref b11), .val (.ref b27), .val (.ref b33), .val (.ref b39), .val (.ref b40), .val (.int ((((q5.toUInt64 >>> ((62 : Int32) &&& 0x3f).toInt64.toUInt64).toInt64) &&& (3 : Int64)).toInt32)), .val (.ref b27), .val (.int (1 : Int32))] [(.ref b11), (.ref b27), (.ref b40)])) rfl (by rw [hml]; rfl) pd_3 rfl rfl (by show 2 * 0 + _ ≤ _; exact Nat.le_of_eq rfl) (hb hby at_409) e44 (by decide) (by decide) N44
    have V_b1_45 := V_b1_42.keep K45 (ninS (Nat.ne_of_lt lt_b1_b40) nin0)
    have V_b11_45 := V_b11_42.keep K45 (ninS (Nat.ne_of_lt lt_b11_b40) nin0)
    have V_b33_45 := V_b33_42.keep K45 (ninS (Nat.ne_of_lt lt_b33_b40) nin0)
    have V_b39_45 := V_b39_42.keep K45 (ninS (Nat.ne_of_lt lt_b39_b40) nin0)
    have V_b27_45 := V42.keep K45 (ninS (Nat.ne_of_lt lt_b27_b40) nin0)
    have sz_45 := Nat.le_trans sz_42 K45.1
    refine own_go (T' := T45) (g' := (mkF m 412 #[.val (.long q0), .second, .val (.long q1), .second, .val (.long q2), .second, .val (.long q3), .second, .val (.long q4), .second, .val (.long q5), .second, .val (.ref b1), .val (.long mix), .second, .val (.ref b11), .val (.ref b27), .val (.ref b33), .val (.ref b39), .val (.ref b40), .val (.int ((((q5.toUInt64 >>> ((62 : Int32) &&& 0x3f).toInt64.toUInt64).toInt64) &&& (3 : Int64)).toInt32)), .val (.ref b27), .val (.int (1 : Int32))] [])) st45 ?_
    refine own_go (T' := T45) (g' := (mkF m 421 #[.val (.long q0), .second, .val (.long q1), .second, .val (.long q2), .second, .val (.long q3), .second, .val (.long q4), .second, .val (.long q5), .second, .val (.ref b1), .val (.long mix), .second, .val (.ref b11), .val (.ref b27), .val (.ref b33), .val (.ref b39), .val (.ref b40), .val (.int ((((q5.toUInt64 >>> ((62 : Int32) &&& 0x3f).toInt64.toUInt64).toInt64) &&& (3 : Int64)).toInt32)), .val (.ref b27), .val (.int (1 : Int32))] [(.ref b1), (.ref b40)])) (fun t k => ?_) ?_
    · show Steps p.tables e below (T45.setTop (mkF m 412 #[.val (.long q0), .second, .val (.long q1), .second, .val (.long q2), .second, .val (.long q3), .second, .val (.long q4), .second, .val (.long q5), .second, .val (.ref b1), .val (.long mix), .second, .val (.ref b11), .val (.ref b27), .val (.ref b33), .val (.ref b39), .val (.ref b40), .val (.int ((((q5.toUInt64 >>> ((62 : Int32) &&& 0x3f).toInt64.toUInt64).toInt64) &&& (3 : Int64)).toInt32)), .val (.ref b27), .val (.int (1 : Int32))] [])) t
      refine XS.iload X45.here hx rfl (hb hby at_412) rfl ?_
      show Steps p.tables e below (T45.setTop (mkF m 414 #[.val (.long q0), .second, .val (.long q1), .second, .val (.long q2), .second, .val (.long q3), .second, .val (.long q4), .second, .val (.long q5), .second, .val (.ref b1), .val (.long mix), .second, .val (.ref b11), .val (.ref b27), .val (.ref b33), .val (.ref b39), .val (.ref b40), .val (.int ((((q5.toUInt64 >>> ((62 : Int32) &&& 0x3f).toInt64.toUInt64).toInt64) &&& (3 : Int64)).toInt32)), .val (.ref b27), .val (.int (1 : Int32))] [(.int (1 : Int32))])) _
      refine XS.ifNo X45.here hx rfl (hb hby at_414) rfl ((if0 _ _).trans (feq (by decide)).1) ?_
      show Steps p.tables e below (T45.setTop (mkF m 417 #[.val (.long q0), .second, .val (.long q1), .second, .val (.long q2), .second, .val (.long q3), .second, .val (.long q4), .second, .val (.long q5), .second, .val (.ref b1), .val (.long mix), .second, .val (.ref b11), .val (.ref b27), .val (.ref b33), .val (.ref b39), .val (.ref b40), .val (.int ((((q5.toUInt64 >>> ((62 : Int32) &&& 0x3f).toInt64.toUInt64).toInt64) &&& (3 : Int64)).toInt32)), .val (.ref b27), .val (.int (1 : Int32))] [])) _
      refine XS.aload X45.here hx rfl (hb hby at_417) rfl rfl ?_
      show Steps p.tables e below (T45.setTop (mkF m 419 #[.val (.long q0), .second, .val (.long q1), .second, .val (.long q2), .second, .val (.long q3), .second, .val (.long q4), .second, .val (.long q5), .second, .val (.ref b1), .val (.long mix), .second, .val (.ref b11), .val (.ref b27), .val (.ref b33), .val (.ref b39), .val (.ref b40), .val (.int ((((q5.toUInt64 >>> ((62 : Int32) &&& 0x3f).toInt64.toUInt64).toInt64) &&& (3 : Int64)).toInt32)), .val (.ref b27), .val (.int (1 : Int32))] [(.ref b40)])) _
      refine XS.aload X45.here hx rfl (hb hby at_419) rfl rfl ?_
      show Steps p.tables e below (T45.setTop (mkF m 421 #[.val (.long q0), .second, .val (.long q1), .second, .val (.long q2), .second, .val (.long q3), .second, .val (.long q4), .second, .val (.long q5), .second, .val (.ref b1), .val (.long mix), .second, .val (.ref b11), .val (.ref b27), .val (.ref b33), .val (.ref b39), .val (.ref b40), .val (.int ((((q5.toUInt64 >>> ((62 : Int32) &&& 0x3f).toInt64.toUInt64).toInt64) &&& (3 : Int64)).toInt32)), .val (.ref b27), .val (.int (1 : Int32))] [(.ref b1), (.ref b40)])) _
      exact k
    obtain ⟨_, T46, L46, X46, N46, ⟨rfl, e46⟩, st46⟩ := own_callS X45 hx hZ hown (hw _ (List.mem_of_getElem? (i := 32) rfl)) (hw _ (List.mem_of_getElem? (i := 33) rfl)) (hw _ (List.mem_of_getElem? (i := 16) rfl)) (hw _ (List.mem_of_getElem? (i := 34) rfl)) (by decide) (argsL := [(.ref b40), (.ref b1)]) (rest := []) (rm7 l Z a0 hw b40 b1 k40 (((Ht0 &&& (4503599627370495 : Int64)) &&& Hm2) ||| ((Hs0 &&& (4503599627370495 : Int64)) &&& (Hm2 ^^^ (-1 : Int64)))) (((Ht1 &&& (4503599627370495 : Int64)) &&& Hm2) ||| ((Hs1 &&& (4503599627370495 : Int64)) &&& (Hm2 ^^^ (-1 : Int64)))) (((Ht2 &&& (4503599627370495 : Int64)) &&& Hm2) ||| ((Hs2 &&& (4503599627370495 : Int64)) &&& (Hm2 ^^^ (-1 : Int64)))) (((Ht3 &&& (4503599627370495 : Int64)) &&& Hm2) ||| ((Hs3 &&& (4503599627370495 : Int64)) &&& (Hm2 ^^^ (-1 : Int64)))) ((Ht4 &&& Hm2) ||| (Hs4 &&& (Hm2 ^^^ (-1 : Int64)))) k1 x0 x1 x2 x3 y8 T45.heap n0 V45 V_b1_45) (W := 0) (by decide) (by decide) (g := (mkF m 421 #[.val (.long q0), .second, .val (.long q1), .second, .val (.long q2), .second, .val (.long q3), .second, .val (.long q4), .second, .val (.long q5), .second, .val (.ref b1), .val (.long mix), .second, .val (.ref b11), .val (.ref b27), .val (.ref b33), .val (.ref b39), .val (.ref b40), .val (.int ((((q5.toUInt64 >>> ((62 : Int32) &&& 0x3f).toInt64.toUInt64).toInt64) &&& (3 : Int64)).toInt32)), .val (.ref b27), .val (.int (1 : Int32))] [(.ref b1), (.ref b40)])) rfl (by rw [hml]; rfl) pd_4 rfl rfl (by show 2 * 0 + _ ≤ _; exact Nat.le_of_eq rfl) (hb hby at_421) rfl (by decide) (by decide) N45
    refine own_go (T' := T46) (g' := (mkF m 424 #[.val (.long q0), .second, .val (.long q1), .second, .val (.long q2), .second, .val (.long q3), .second, .val (.long q4), .second, .val (.long q5), .second, .val (.ref b1), .val (.long mix), .second, .val (.ref b11), .val (.ref b27), .val (.ref b33), .val (.ref b39), .val (.ref b40), .val (.int ((((q5.toUInt64 >>> ((62 : Int32) &&& 0x3f).toInt64.toUInt64).toInt64) &&& (3 : Int64)).toInt32)), .val (.ref b27), .val (.int (1 : Int32))] [(.int (f7_0 (((Ht0 &&& (4503599627370495 : Int64)) &&& Hm2) ||| ((Hs0 &&& (4503599627370495 : Int64)) &&& (Hm2 ^^^ (-1 : Int64)))) (((Ht1 &&& (4503599627370495 : Int64)) &&& Hm2) ||| ((Hs1 &&& (4503599627370495 : Int64)) &&& (Hm2 ^^^ (-1 : Int64)))) (((Ht2 &&& (4503599627370495 : Int64)) &&& Hm2) ||| ((Hs2 &&& (4503599627370495 : Int64)) &&& (Hm2 ^^^ (-1 : Int64)))) (((Ht3 &&& (4503599627370495 : Int64)) &&& Hm2) ||| ((Hs3 &&& (4503599627370495 : Int64)) &&& (Hm2 ^^^ (-1 : Int64)))) ((Ht4 &&& Hm2) ||| (Hs4 &&& (Hm2 ^^^ (-1 : Int64)))) x0 x1 x2 x3 y8))])) st46 ?_
    refine own_go (T' := T46) (g' := (mkF m 432 #[.val (.long q0), .second, .val (.long q1), .second, .val (.long q2), .second, .val (.long q3), .second, .val (.long q4), .second, .val (.long q5), .second, .val (.ref b1), .val (.long mix), .second, .val (.ref b11), .val (.ref b27), .val (.ref b33), .val (.ref b39), .val (.ref b40), .val (.int ((((q5.toUInt64 >>> ((62 : Int32) &&& 0x3f).toInt64.toUInt64).toInt64) &&& (3 : Int64)).toInt32)), .val (.ref b27), .val (.int (1 : Int32))] [(.int (1 : Int32))])) (fun t k => ?_) ?_
    · show Steps p.tables e below (T46.setTop (mkF m 424 #[.val (.long q0), .second, .val (.long q1), .second, .val (.long q2), .second, .val (.long q3), .second, .val (.long q4), .second, .val (.long q5), .second, .val (.ref b1), .val (.long mix), .second, .val (.ref b11), .val (.ref b27), .val (.ref b33), .val (.ref b39), .val (.ref b40), .val (.int ((((q5.toUInt64 >>> ((62 : Int32) &&& 0x3f).toInt64.toUInt64).toInt64) &&& (3 : Int64)).toInt32)), .val (.ref b27), .val (.int (1 : Int32))] [(.int (f7_0 (((Ht0 &&& (4503599627370495 : Int64)) &&& Hm2) ||| ((Hs0 &&& (4503599627370495 : Int64)) &&& (Hm2 ^^^ (-1 : Int64)))) (((Ht1 &&& (4503599627370495 : Int64)) &&& Hm2) ||| ((Hs1 &&& (4503599627370495 : Int64)) &&& (Hm2 ^^^ (-1 : Int64)))) (((Ht2 &&& (4503599627370495 : Int64)) &&& Hm2) ||| ((Hs2 &&& (4503599627370495 : Int64)) &&& (Hm2 ^^^ (-1 : Int64)))) (((Ht3 &&& (4503599627370495 : Int64)) &&& Hm2) ||| ((Hs3 &&& (4503599627370495 : Int64)) &&& (Hm2 ^^^ (-1 : Int64)))) ((Ht4 &&& Hm2) ||| (Hs4 &&& (Hm2 ^^^ (-1 : Int64)))) x0 x1 x2 x3 y8))])) t
      refine XS.ifNo X46.here hx rfl (hb hby at_424) rfl ((if0 _ _).trans (feq (own_main2 Ha Hb Hr.2.2 E45 G45)).1) ?_
      show Steps p.tables e below (T46.setTop (mkF m 427 #[.val (.long q0), .second, .val (.long q1), .second, .val (.long q2), .second, .val (.long q3), .second, .val (.long q4), .second, .val (.long q5), .second, .val (.ref b1), .val (.long mix), .second, .val (.ref b11), .val (.ref b27), .val (.ref b33), .val (.ref b39), .val (.ref b40), .val (.int ((((q5.toUInt64 >>> ((62 : Int32) &&& 0x3f).toInt64.toUInt64).toInt64) &&& (3 : Int64)).toInt32)), .val (.ref b27), .val (.int (1 : Int32))] [])) _
      refine XS.iconst X46.here hx rfl (hb hby at_427) ?_
      show Steps p.tables e below (T46.setTop (mkF m 428 #[.val (.long q0), .second, .val (.long q1), .second, .val (.long q2), .second, .val (.long q3), .second, .val (.long q4), .second, .val (.long q5), .second, .val (.ref b1), .val (.long mix), .second, .val (.ref b11), .val (.ref b27), .val (.ref b33), .val (.ref b39), .val (.ref b40), .val (.int ((((q5.toUInt64 >>> ((62 : Int32) &&& 0x3f).toInt64.toUInt64).toInt64) &&& (3 : Int64)).toInt32)), .val (.ref b27), .val (.int (1 : Int32))] [(.int (1 : Int32))])) _
      refine XS.goto X46.here hx rfl (pc0 := 428) (pc' := 432) rfl (hb hby at_428) (by decide) (by decide) ?_
      show Steps p.tables e below (T46.setTop (mkF m 432 #[.val (.long q0), .second, .val (.long q1), .second, .val (.long q2), .second, .val (.long q3), .second, .val (.long q4), .second, .val (.long q5), .second, .val (.ref b1), .val (.long mix), .second, .val (.ref b11), .val (.ref b27), .val (.ref b33), .val (.ref b39), .val (.ref b40), .val (.int ((((q5.toUInt64 >>> ((62 : Int32) &&& 0x3f).toInt64.toUInt64).toInt64) &&& (3 : Int64)).toInt32)), .val (.ref b27), .val (.int (1 : Int32))] [(.int (1 : Int32))])) _
      exact k
    exact own_retN X46 hx hlk hret (by simp) (hb hby at_432) (by decide) (by decide) N46 ⟨rfl, trivial⟩
  · refine own_go (T' := T40) (g' := (mkF m 361 #[.val (.long q0), .second, .val (.long q1), .second, .val (.long q2), .second, .val (.long q3), .second, .val (.long q4), .second, .val (.long q5), .second, .val (.ref b1), .val (.long mix), .second, .val (.ref b11), .val (.ref b27), .val (.ref b33), .val (.ref b39), .val (.ref b40), .val (.int ((((q5.toUInt64 >>> ((62 : Int32) &&& 0x3f).toInt64.toUInt64).toInt64) &&& (3 : Int64)).toInt32)), .val (.ref b39), .unset] [])) (fun t k => ?_) ?_
    · refine XS.icmpYes X40.here hx rfl (pc0 := 351) (pc' := 361) rfl (hb hby at_351) rfl (feq hc351_41).2 (by decide) (by decide) ?_
      exact k
    refine own_go (T' := T40) (g' := (mkF m 364 #[.val (.long q0), .second, .val (.long q1), .second, .val (.long q2), .second, .val (.long q3), .second, .val (.long q4), .second, .val (.long q5), .second, .val (.ref b1), .val (.long mix), .second, .val (.ref b11), .val (.ref b27), .val (.ref b33), .val (.ref b39), .val (.ref b40), .val (.int ((((q5.toUInt64 >>> ((62 : Int32) &&& 0x3f).toInt64.toUInt64).toInt64) &&& (3 : Int64)).toInt32)), .val (.ref b39), .unset] [(.int (2 : Int32)), (.int ((((q5.toUInt64 >>> ((62 : Int32) &&& 0x3f).toInt64.toUInt64).toInt64) &&& (3 : Int64)).toInt32))])) (fun t k => ?_) ?_
    · show Steps p.tables e below (T40.setTop (mkF m 361 #[.val (.long q0), .second, .val (.long q1), .second, .val (.long q2), .second, .val (.long q3), .second, .val (.long q4), .second, .val (.long q5), .second, .val (.ref b1), .val (.long mix), .second, .val (.ref b11), .val (.ref b27), .val (.ref b33), .val (.ref b39), .val (.ref b40), .val (.int ((((q5.toUInt64 >>> ((62 : Int32) &&& 0x3f).toInt64.toUInt64).toInt64) &&& (3 : Int64)).toInt32)), .val (.ref b39), .unset] [])) t
      refine XS.iload X40.here hx rfl (hb hby at_361) rfl ?_
      show Steps p.tables e below (T40.setTop (mkF m 363 #[.val (.long q0), .second, .val (.long q1), .second, .val (.long q2), .second, .val (.long q3), .second, .val (.long q4), .second, .val (.long q5), .second, .val (.ref b1), .val (.long mix), .second, .val (.ref b11), .val (.ref b27), .val (.ref b33), .val (.ref b39), .val (.ref b40), .val (.int ((((q5.toUInt64 >>> ((62 : Int32) &&& 0x3f).toInt64.toUInt64).toInt64) &&& (3 : Int64)).toInt32)), .val (.ref b39), .unset] [(.int ((((q5.toUInt64 >>> ((62 : Int32) &&& 0x3f).toInt64.toUInt64).toInt64) &&& (3 : Int64)).toInt32))])) _
      refine XS.iconst X40.here hx rfl (hb hby at_363) ?_
      show Steps p.tables e below (T40.setTop (mkF m 364 #[.val (.long q0), .second, .val (.long q1), .second, .val (.long q2), .second, .val (.long q3), .second, .val (.long q4), .second, .val (.long q5), .second, .val (.ref b1), .val (.long mix), .second, .val (.ref b11), .val (.ref b27), .val (.ref b33), .val (.ref b39), .val (.ref b40), .val (.int ((((q5.toUInt64 >>> ((62 : Int32) &&& 0x3f).toInt64.toUInt64).toInt64) &&& (3 : Int64)).toInt32)), .val (.ref b39), .unset] [(.int (2 : Int32)), (.int ((((q5.toUInt64 >>> ((62 : Int32) &&& 0x3f).toInt64.toUInt64).toInt64) &&& (3 : Int64)).toInt32))])) _
      exact k
    by_cases hc364_47 : ((((q5.toUInt64 >>> ((62 : Int32) &&& 0x3f).toInt64.toUInt64).toInt64) &&& (3 : Int64)).toInt32) = (2 : Int32)
    · refine own_go (T' := T40) (g' := (mkF m 367 #[.val (.long q0), .second, .val (.long q1), .second, .val (.long q2), .second, .val (.long q3), .second, .val (.long q4), .second, .val (.long q5), .second, .val (.ref b1), .val (.long mix), .second, .val (.ref b11), .val (.ref b27), .val (.ref b33), .val (.ref b39), .val (.ref b40), .val (.int ((((q5.toUInt64 >>> ((62 : Int32) &&& 0x3f).toInt64.toUInt64).toInt64) &&& (3 : Int64)).toInt32)), .val (.ref b39), .unset] [])) (fun t k => ?_) ?_
      · refine XS.icmpNo X40.here hx rfl (hb hby at_364) rfl (teq hc364_47).2 ?_
        exact k
      refine own_go (T' := T40) (g' := (mkF m 377 #[.val (.long q0), .second, .val (.long q1), .second, .val (.long q2), .second, .val (.long q3), .second, .val (.long q4), .second, .val (.long q5), .second, .val (.ref b1), .val (.long mix), .second, .val (.ref b11), .val (.ref b27), .val (.ref b33), .val (.ref b39), .val (.ref b40), .val (.int ((((q5.toUInt64 >>> ((62 : Int32) &&& 0x3f).toInt64.toUInt64).toInt64) &&& (3 : Int64)).toInt32)), .val (.ref b33), .unset] [(.ref b33), (.ref b27), (.ref b33)])) (fun t k => ?_) ?_
      · show Steps p.tables e below (T40.setTop (mkF m 367 #[.val (.long q0), .second, .val (.long q1), .second, .val (.long q2), .second, .val (.long q3), .second, .val (.long q4), .second, .val (.long q5), .second, .val (.ref b1), .val (.long mix), .second, .val (.ref b11), .val (.ref b27), .val (.ref b33), .val (.ref b39), .val (.ref b40), .val (.int ((((q5.toUInt64 >>> ((62 : Int32) &&& 0x3f).toInt64.toUInt64).toInt64) &&& (3 : Int64)).toInt32)), .val (.ref b39), .unset] [])) t
        refine XS.aload X40.here hx rfl (hb hby at_367) rfl rfl ?_
        show Steps p.tables e below (T40.setTop (mkF m 369 #[.val (.long q0), .second, .val (.long q1), .second, .val (.long q2), .second, .val (.long q3), .second, .val (.long q4), .second, .val (.long q5), .second, .val (.ref b1), .val (.long mix), .second, .val (.ref b11), .val (.ref b27), .val (.ref b33), .val (.ref b39), .val (.ref b40), .val (.int ((((q5.toUInt64 >>> ((62 : Int32) &&& 0x3f).toInt64.toUInt64).toInt64) &&& (3 : Int64)).toInt32)), .val (.ref b39), .unset] [(.ref b33)])) _
        refine XS.astore X40.here hx rfl (hb hby at_369) rfl rfl (l' := #[.val (.long q0), .second, .val (.long q1), .second, .val (.long q2), .second, .val (.long q3), .second, .val (.long q4), .second, .val (.long q5), .second, .val (.ref b1), .val (.long mix), .second, .val (.ref b11), .val (.ref b27), .val (.ref b33), .val (.ref b39), .val (.ref b40), .val (.int ((((q5.toUInt64 >>> ((62 : Int32) &&& 0x3f).toInt64.toUInt64).toInt64) &&& (3 : Int64)).toInt32)), .val (.ref b33), .unset]) rfl ?_
        show Steps p.tables e below (T40.setTop (mkF m 371 #[.val (.long q0), .second, .val (.long q1), .second, .val (.long q2), .second, .val (.long q3), .second, .val (.long q4), .second, .val (.long q5), .second, .val (.ref b1), .val (.long mix), .second, .val (.ref b11), .val (.ref b27), .val (.ref b33), .val (.ref b39), .val (.ref b40), .val (.int ((((q5.toUInt64 >>> ((62 : Int32) &&& 0x3f).toInt64.toUInt64).toInt64) &&& (3 : Int64)).toInt32)), .val (.ref b33), .unset] [])) _
        refine XS.aload X40.here hx rfl (hb hby at_371) rfl rfl ?_
        show Steps p.tables e below (T40.setTop (mkF m 373 #[.val (.long q0), .second, .val (.long q1), .second, .val (.long q2), .second, .val (.long q3), .second, .val (.long q4), .second, .val (.long q5), .second, .val (.ref b1), .val (.long mix), .second, .val (.ref b11), .val (.ref b27), .val (.ref b33), .val (.ref b39), .val (.ref b40), .val (.int ((((q5.toUInt64 >>> ((62 : Int32) &&& 0x3f).toInt64.toUInt64).toInt64) &&& (3 : Int64)).toInt32)), .val (.ref b33), .unset] [(.ref b33)])) _
        refine XS.aload X40.here hx rfl (hb hby at_373) rfl rfl ?_
        show Steps p.tables e below (T40.setTop (mkF m 375 #[.val (.long q0), .second, .val (.long q1), .second, .val (.long q2), .second, .val (.long q3), .second, .val (.long q4), .second, .val (.long q5), .second, .val (.ref b1), .val (.long mix), .second, .val (.ref b11), .val (.ref b27), .val (.ref b33), .val (.ref b39), .val (.ref b40), .val (.int ((((q5.toUInt64 >>> ((62 : Int32) &&& 0x3f).toInt64.toUInt64).toInt64) &&& (3 : Int64)).toInt32)), .val (.ref b33), .unset] [(.ref b27), (.ref b33)])) _
        refine XS.aload X40.here hx rfl (hb hby at_375) rfl rfl ?_
        show Steps p.tables e below (T40.setTop (mkF m 377 #[.val (.long q0), .second, .val (.long q1), .second, .val (.long q2), .second, .val (.long q3), .second, .val (.long q4), .second, .val (.long q5), .second, .val (.ref b1), .val (.long mix), .second, .val (.ref b11), .val (.ref b27), .val (.ref b33), .val (.ref b39), .val (.ref b40), .val (.int ((((q5.toUInt64 >>> ((62 : Int32) &&& 0x3f).toInt64.toUInt64).toInt64) &&& (3 : Int64)).toInt32)), .val (.ref b33), .unset] [(.ref b33), (.ref b27), (.ref b33)])) _
        exact k
      obtain ⟨_, T48, L48, X48, N48, ⟨rfl, K48, Gt0, Gt1, Gt2, Gt3, Gt4, Gm1, Gu0, Gu1, Gu2, Gu3, Gu4, E48, V48⟩, st48⟩ := own_callS X40 hx hZ hown (hw _ (List.mem_of_getElem? (i := 14) rfl)) (hw _ (List.mem_of_getElem? (i := 15) rfl)) (hw _ (List.mem_of_getElem? (i := 16) rfl)) (hw _ (List.mem_of_getElem? (i := 17) rfl)) (by decide) (argsL := [(.ref b33), (.ref b27), (.ref b33)]) (rest := []) (rm3 l Z a0 hw b33 b27 b33 k33 k27 k33 w0 w1 w2 w3 y24 x0 x1 x2 x3 y8 w0 w1 w2 w3 y24 h40 n0 sz_40 ga_b33 V_b33_40 V_b27_40 V_b33_40) (W := 0) (by decide) (by decide) (g := (mkF m 377 #[.val (.long q0), .second, .val (.long q1), .second, .val (.long q2), .second, .val (.long q3), .second, .val (.long q4), .second, .val (.long q5), .second, .val (.ref b1), .val (.long mix), .second, .val (.ref b11), .val (.ref b27), .val (.ref b33), .val (.ref b39), .val (.ref b40), .val (.int ((((q5.toUInt64 >>> ((62 : Int32) &&& 0x3f).toInt64.toUInt64).toInt64) &&& (3 : Int64)).toInt32)), .val (.ref b33), .unset] [(.ref b33), (.ref b27), (.ref b33)])) rfl (by rw [hml]; rfl) pd_3 rfl rfl (by show 2 * 0 + _ ≤ _; exact Nat.le_of_eq rfl) (hb hby at_377) e40 (by decide) (by decide) N38
      have V_b1_48 := V_b1_40.keep K48 (ninS (Nat.ne_of_lt lt_b1_b33) nin0)
      have V_b11_48 := V_b11_40.keep K48 (ninS (Nat.ne_of_lt lt_b11_b33) nin0)
      have V_b27_48 := V_b27_40.keep K48 (ninS (Nat.ne_of_lt lt_b27_b33) nin0)
      have V_b39_48 := V_b39_40.keep K48 (ninS (Nat.ne_of_gt lt_b33_b39) nin0)
      have V_b40_48 := V_b40_40.keep K48 (ninS (Nat.ne_of_gt lt_b33_b40) nin0)
      have sz_48 := Nat.le_trans sz_40 K48.1
      refine own_go (T' := T48) (g' := (mkF m 380 #[.val (.long q0), .second, .val (.long q1), .second, .val (.long q2), .second, .val (.long q3), .second, .val (.long q4), .second, .val (.long q5), .second, .val (.ref b1), .val (.long mix), .second, .val (.ref b11), .val (.ref b27), .val (.ref b33), .val (.ref b39), .val (.ref b40), .val (.int ((((q5.toUInt64 >>> ((62 : Int32) &&& 0x3f).toInt64.toUInt64).toInt64) &&& (3 : Int64)).toInt32)), .val (.ref b33), .unset] [])) st48 ?_
      have Hr := own_main1 Ha Hb E48
      refine own_go (T' := T48) (g' := (mkF m 382 #[.val (.long q0), .second, .val (.long q1), .second, .val (.long q2), .second, .val (.long q3), .second, .val (.long q4), .second, .val (.long q5), .second, .val (.ref b1), .val (.long mix), .second, .val (.ref b11), .val (.ref b27), .val (.ref b33), .val (.ref b39), .val (.ref b40), .val (.int ((((q5.toUInt64 >>> ((62 : Int32) &&& 0x3f).toInt64.toUInt64).toInt64) &&& (3 : Int64)).toInt32)), .val (.ref b33), .unset] [(.ref b33)])) (fun t k => ?_) ?_
      · show Steps p.tables e below (T48.setTop (mkF m 380 #[.val (.long q0), .second, .val (.long q1), .second, .val (.long q2), .second, .val (.long q3), .second, .val (.long q4), .second, .val (.long q5), .second, .val (.ref b1), .val (.long mix), .second, .val (.ref b11), .val (.ref b27), .val (.ref b33), .val (.ref b39), .val (.ref b40), .val (.int ((((q5.toUInt64 >>> ((62 : Int32) &&& 0x3f).toInt64.toUInt64).toInt64) &&& (3 : Int64)).toInt32)), .val (.ref b33), .unset] [])) t
        refine XS.aload X48.here hx rfl (hb hby at_380) rfl rfl ?_
        show Steps p.tables e below (T48.setTop (mkF m 382 #[.val (.long q0), .second, .val (.long q1), .second, .val (.long q2), .second, .val (.long q3), .second, .val (.long q4), .second, .val (.long q5), .second, .val (.ref b1), .val (.long mix), .second, .val (.ref b11), .val (.ref b27), .val (.ref b33), .val (.ref b39), .val (.ref b40), .val (.int ((((q5.toUInt64 >>> ((62 : Int32) &&& 0x3f).toInt64.toUInt64).toInt64) &&& (3 : Int64)).toInt32)), .val (.ref b33), .unset] [(.ref b33)])) _
        exact k
      obtain ⟨_, T49, L49, X49, N49, ⟨rfl, e49⟩, st49⟩ := own_callS X48 hx hZ hown (hw _ (List.mem_of_getElem? (i := 22) rfl)) (hw _ (List.mem_of_getElem? (i := 23) rfl)) (hw _ (List.mem_of_getElem? (i := 5) rfl)) (hw _ (List.mem_of_getElem? (i := 24) rfl)) (by decide) (argsL := [(.ref b33)]) (rest := []) (rm4 l Z a0 hw b33 k33 (Gu0 &&& (4503599627370495 : Int64)) (Gu1 &&& (4503599627370495 : Int64)) (Gu2 &&& (4503599627370495 : Int64)) (Gu3 &&& (4503599627370495 : Int64)) Gu4 T48.heap n0 V48) (W := 0) (by decide) (by decide) (g := (mkF m 382 #[.val (.long q0), .second, .val (.long q1), .second, .val (.long q2), .second, .val (.long q3), .second, .val (.long q4), .second, .val (.long q5), .second, .val (.ref b1), .val (.long mix), .second, .val (.ref b11), .val (.ref b27), .val (.ref b33), .val (.ref b39), .val (.ref b40), .val (.int ((((q5.toUInt64 >>> ((62 : Int32) &&& 0x3f).toInt64.toUInt64).toInt64) &&& (3 : Int64)).toInt32)), .val (.ref b33), .unset] [(.ref b33)])) rfl (by rw [hml]; rfl) pd_1 rfl rfl (by show 2 * 0 + _ ≤ _; exact Nat.le_of_eq rfl) (hb hby at_382) rfl (by decide) (by decide) N48
      refine own_go (T' := T49) (g' := (mkF m 385 #[.val (.long q0), .second, .val (.long q1), .second, .val (.long q2), .second, .val (.long q3), .second, .val (.long q4), .second, .val (.long q5), .second, .val (.ref b1), .val (.long mix), .second, .val (.ref b11), .val (.ref b27), .val (.ref b33), .val (.ref b39), .val (.ref b40), .val (.int ((((q5.toUInt64 >>> ((62 : Int32) &&& 0x3f).toInt64.toUInt64).toInt64) &&& (3 : Int64)).toInt32)), .val (.ref b33), .unset] [(.int (f4_0 (Gu0 &&& (4503599627370495 : Int64)) (Gu1 &&& (4503599627370495 : Int64)) (Gu2 &&& (4503599627370495 : Int64)) (Gu3 &&& (4503599627370495 : Int64)) Gu4))])) st49 ?_
      refine own_go (T' := T49) (g' := (mkF m 390 #[.val (.long q0), .second, .val (.long q1), .second, .val (.long q2), .second, .val (.long q3), .second, .val (.long q4), .second, .val (.long q5), .second, .val (.ref b1), .val (.long mix), .second, .val (.ref b11), .val (.ref b27), .val (.ref b33), .val (.ref b39), .val (.ref b40), .val (.int ((((q5.toUInt64 >>> ((62 : Int32) &&& 0x3f).toInt64.toUInt64).toInt64) &&& (3 : Int64)).toInt32)), .val (.ref b33), .unset] [(.ref b33)])) (fun t k => ?_) ?_
      · show Steps p.tables e below (T49.setTop (mkF m 385 #[.val (.long q0), .second, .val (.long q1), .second, .val (.long q2), .second, .val (.long q3), .second, .val (.long q4), .second, .val (.long q5), .second, .val (.ref b1), .val (.long mix), .second, .val (.ref b11), .val (.ref b27), .val (.ref b33), .val (.ref b39), .val (.ref b40), .val (.int ((((q5.toUInt64 >>> ((62 : Int32) &&& 0x3f).toInt64.toUInt64).toInt64) &&& (3 : Int64)).toInt32)), .val (.ref b33), .unset] [(.int (f4_0 (Gu0 &&& (4503599627370495 : Int64)) (Gu1 &&& (4503599627370495 : Int64)) (Gu2 &&& (4503599627370495 : Int64)) (Gu3 &&& (4503599627370495 : Int64)) Gu4))])) t
        refine XS.ifNo X49.here hx rfl (hb hby at_385) rfl ((if0 _ _).trans (feq Hr.1).1) ?_
        show Steps p.tables e below (T49.setTop (mkF m 388 #[.val (.long q0), .second, .val (.long q1), .second, .val (.long q2), .second, .val (.long q3), .second, .val (.long q4), .second, .val (.long q5), .second, .val (.ref b1), .val (.long mix), .second, .val (.ref b11), .val (.ref b27), .val (.ref b33), .val (.ref b39), .val (.ref b40), .val (.int ((((q5.toUInt64 >>> ((62 : Int32) &&& 0x3f).toInt64.toUInt64).toInt64) &&& (3 : Int64)).toInt32)), .val (.ref b33), .unset] [])) _
        refine XS.aload X49.here hx rfl (hb hby at_388) rfl rfl ?_
        show Steps p.tables e below (T49.setTop (mkF m 390 #[.val (.long q0), .second, .val (.long q1), .second, .val (.long q2), .second, .val (.long q3), .second, .val (.long q4), .second, .val (.long q5), .second, .val (.ref b1), .val (.long mix), .second, .val (.ref b11), .val (.ref b27), .val (.ref b33), .val (.ref b39), .val (.ref b40), .val (.int ((((q5.toUInt64 >>> ((62 : Int32) &&& 0x3f).toInt64.toUInt64).toInt64) &&& (3 : Int64)).toInt32)), .val (.ref b33), .unset] [(.ref b33)])) _
        exact k
      obtain ⟨_, T50, L50, X50, N50, ⟨rfl, e50⟩, st50⟩ := own_callS X49 hx hZ hown (hw _ (List.mem_of_getElem? (i := 3) rfl)) (hw _ (List.mem_of_getElem? (i := 4) rfl)) (hw _ (List.mem_of_getElem? (i := 5) rfl)) (hw _ (List.mem_of_getElem? (i := 6) rfl)) (by decide) (argsL := [(.ref b33)]) (rest := []) (rm1 l Z a0 hw b33 k33 (Gu0 &&& (4503599627370495 : Int64)) (Gu1 &&& (4503599627370495 : Int64)) (Gu2 &&& (4503599627370495 : Int64)) (Gu3 &&& (4503599627370495 : Int64)) Gu4 T48.heap n0 V48) (W := 0) (by decide) (by decide) (g := (mkF m 390 #[.val (.long q0), .second, .val (.long q1), .second, .val (.long q2), .second, .val (.long q3), .second, .val (.long q4), .second, .val (.long q5), .second, .val (.ref b1), .val (.long mix), .second, .val (.ref b11), .val (.ref b27), .val (.ref b33), .val (.ref b39), .val (.ref b40), .val (.int ((((q5.toUInt64 >>> ((62 : Int32) &&& 0x3f).toInt64.toUInt64).toInt64) &&& (3 : Int64)).toInt32)), .val (.ref b33), .unset] [(.ref b33)])) rfl (by rw [hml]; rfl) pd_1 rfl rfl (by show 2 * 0 + _ ≤ _; exact Nat.le_of_eq rfl) (hb hby at_390) e49 (by decide) (by decide) N49
      refine own_go (T' := T50) (g' := (mkF m 393 #[.val (.long q0), .second, .val (.long q1), .second, .val (.long q2), .second, .val (.long q3), .second, .val (.long q4), .second, .val (.long q5), .second, .val (.ref b1), .val (.long mix), .second, .val (.ref b11), .val (.ref b27), .val (.ref b33), .val (.ref b39), .val (.ref b40), .val (.int ((((q5.toUInt64 >>> ((62 : Int32) &&& 0x3f).toInt64.toUInt64).toInt64) &&& (3 : Int64)).toInt32)), .val (.ref b33), .unset] [(.int (f1_0 (Gu0 &&& (4503599627370495 : Int64)) (Gu1 &&& (4503599627370495 : Int64)) (Gu2 &&& (4503599627370495 : Int64)) (Gu3 &&& (4503599627370495 : Int64)) Gu4))])) st50 ?_
      refine own_go (T' := T50) (g' := (mkF m 409 #[.val (.long q0), .second, .val (.long q1), .second, .val (.long q2), .second, .val (.long q3), .second, .val (.long q4), .second, .val (.long q5), .second, .val (.ref b1), .val (.long mix), .second, .val (.ref b11), .val (.ref b27), .val (.ref b33), .val (.ref b39), .val (.ref b40), .val (.int ((((q5.toUInt64 >>> ((62 : Int32) &&& 0x3f).toInt64.toUInt64).toInt64) &&& (3 : Int64)).toInt32)), .val (.ref b33), .val (.int (1 : Int32))] [(.ref b11), (.ref b33), (.ref b40)])) (fun t k => ?_) ?_
      · show Steps p.tables e below (T50.setTop (mkF m 393 #[.val (.long q0), .second, .val (.long q1), .second, .val (.long q2), .second, .val (.long q3), .second, .val (.long q4), .second, .val (.long q5), .second, .val (.ref b1), .val (.long mix), .second, .val (.ref b11), .val (.ref b27), .val (.ref b33), .val (.ref b39), .val (.ref b40), .val (.int ((((q5.toUInt64 >>> ((62 : Int32) &&& 0x3f).toInt64.toUInt64).toInt64) &&& (3 : Int64)).toInt32)), .val (.ref b33), .unset] [(.int (f1_0 (Gu0 &&& (4503599627370495 : Int64)) (Gu1 &&& (4503599627370495 : Int64)) (Gu2 &&& (4503599627370495 : Int64)) (Gu3 &&& (4503599627370495 : Int64)) Gu4))])) t
        refine XS.ifNo X50.here hx rfl (hb hby at_393) rfl ((if0 _ _).trans (feq Hr.2.1).1) ?_
        show Steps p.tables e below (T50.setTop (mkF m 396 #[.val (.long q0), .second, .val (.long q1), .second, .val (.long q2), .second, .val (.long q3), .second, .val (.long q4), .second, .val (.long q5), .second, .val (.ref b1), .val (.long mix), .second, .val (.ref b11), .val (.ref b27), .val (.ref b33), .val (.ref b39), .val (.ref b40), .val (.int ((((q5.toUInt64 >>> ((62 : Int32) &&& 0x3f).toInt64.toUInt64).toInt64) &&& (3 : Int64)).toInt32)), .val (.ref b33), .unset] [])) _
        refine XS.iconst X50.here hx rfl (hb hby at_396) ?_
        show Steps p.tables e below (T50.setTop (mkF m 397 #[.val (.long q0), .second, .val (.long q1), .second, .val (.long q2), .second, .val (.long q3), .second, .val (.long q4), .second, .val (.long q5), .second, .val (.ref b1), .val (.long mix), .second, .val (.ref b11), .val (.ref b27), .val (.ref b33), .val (.ref b39), .val (.ref b40), .val (.int ((((q5.toUInt64 >>> ((62 : Int32) &&& 0x3f).toInt64.toUInt64).toInt64) &&& (3 : Int64)).toInt32)), .val (.ref b33), .unset] [(.int (1 : Int32))])) _
        refine XS.goto X50.here hx rfl (pc0 := 397) (pc' := 401) rfl (hb hby at_397) (by decide) (by decide) ?_
        show Steps p.tables e below (T50.setTop (mkF m 401 #[.val (.long q0), .second, .val (.long q1), .second, .val (.long q2), .second, .val (.long q3), .second, .val (.long q4), .second, .val (.long q5), .second, .val (.ref b1), .val (.long mix), .second, .val (.ref b11), .val (.ref b27), .val (.ref b33), .val (.ref b39), .val (.ref b40), .val (.int ((((q5.toUInt64 >>> ((62 : Int32) &&& 0x3f).toInt64.toUInt64).toInt64) &&& (3 : Int64)).toInt32)), .val (.ref b33), .unset] [(.int (1 : Int32))])) _
        refine XS.istore X50.here hx rfl (hb hby at_401) rfl (l' := #[.val (.long q0), .second, .val (.long q1), .second, .val (.long q2), .second, .val (.long q3), .second, .val (.long q4), .second, .val (.long q5), .second, .val (.ref b1), .val (.long mix), .second, .val (.ref b11), .val (.ref b27), .val (.ref b33), .val (.ref b39), .val (.ref b40), .val (.int ((((q5.toUInt64 >>> ((62 : Int32) &&& 0x3f).toInt64.toUInt64).toInt64) &&& (3 : Int64)).toInt32)), .val (.ref b33), .val (.int (1 : Int32))]) rfl ?_
        show Steps p.tables e below (T50.setTop (mkF m 403 #[.val (.long q0), .second, .val (.long q1), .second, .val (.long q2), .second, .val (.long q3), .second, .val (.long q4), .second, .val (.long q5), .second, .val (.ref b1), .val (.long mix), .second, .val (.ref b11), .val (.ref b27), .val (.ref b33), .val (.ref b39), .val (.ref b40), .val (.int ((((q5.toUInt64 >>> ((62 : Int32) &&& 0x3f).toInt64.toUInt64).toInt64) &&& (3 : Int64)).toInt32)), .val (.ref b33), .val (.int (1 : Int32))] [])) _
        refine XS.aload X50.here hx rfl (hb hby at_403) rfl rfl ?_
        show Steps p.tables e below (T50.setTop (mkF m 405 #[.val (.long q0), .second, .val (.long q1), .second, .val (.long q2), .second, .val (.long q3), .second, .val (.long q4), .second, .val (.long q5), .second, .val (.ref b1), .val (.long mix), .second, .val (.ref b11), .val (.ref b27), .val (.ref b33), .val (.ref b39), .val (.ref b40), .val (.int ((((q5.toUInt64 >>> ((62 : Int32) &&& 0x3f).toInt64.toUInt64).toInt64) &&& (3 : Int64)).toInt32)), .val (.ref b33), .val (.int (1 : Int32))] [(.ref b40)])) _
        refine XS.aload X50.here hx rfl (hb hby at_405) rfl rfl ?_
        show Steps p.tables e below (T50.setTop (mkF m 407 #[.val (.long q0), .second, .val (.long q1), .second, .val (.long q2), .second, .val (.long q3), .second, .val (.long q4), .second, .val (.long q5), .second, .val (.ref b1), .val (.long mix), .second, .val (.ref b11), .val (.ref b27), .val (.ref b33), .val (.ref b39), .val (.ref b40), .val (.int ((((q5.toUInt64 >>> ((62 : Int32) &&& 0x3f).toInt64.toUInt64).toInt64) &&& (3 : Int64)).toInt32)), .val (.ref b33), .val (.int (1 : Int32))] [(.ref b33), (.ref b40)])) _
        refine XS.aload X50.here hx rfl (hb hby at_407) rfl rfl ?_
        show Steps p.tables e below (T50.setTop (mkF m 409 #[.val (.long q0), .second, .val (.long q1), .second, .val (.long q2), .second, .val (.long q3), .second, .val (.long q4), .second, .val (.long q5), .second, .val (.ref b1), .val (.long mix), .second, .val (.ref b11), .val (.ref b27), .val (.ref b33), .val (.ref b39), .val (.ref b40), .val (.int ((((q5.toUInt64 >>> ((62 : Int32) &&& 0x3f).toInt64.toUInt64).toInt64) &&& (3 : Int64)).toInt32)), .val (.ref b33), .val (.int (1 : Int32))] [(.ref b11), (.ref b33), (.ref b40)])) _
        exact k
      obtain ⟨_, T51, L51, X51, N51, ⟨rfl, K51, Ht0, Ht1, Ht2, Ht3, Ht4, Hs0, Hs1, Hs2, Hs3, Hs4, Hm2, E51, G51, V51⟩, st51⟩ := own_callS X50 hx hZ hown (hw _ (List.mem_of_getElem? (i := 25) rfl)) (hw _ (List.mem_of_getElem? (i := 26) rfl)) (hw _ (List.mem_of_getElem? (i := 16) rfl)) (hw _ (List.mem_of_getElem? (i := 27) rfl)) (by decide) (argsL := [(.ref b40), (.ref b33), (.ref b11)]) (rest := []) (rm5 l Z a0 hw b40 b33 b11 k40 k33 k11 (0 : Int64) (0 : Int64) (0 : Int64) (0 : Int64) (0 : Int64) (Gu0 &&& (4503599627370495 : Int64)) (Gu1 &&& (4503599627370495 : Int64)) (Gu2 &&& (4503599627370495 : Int64)) (Gu3 &&& (4503599627370495 : Int64)) Gu4 w0 w1 w2 w3 y24 T48.heap n0 sz_48 ga_b40 V_b40_48 V48 V_b11_48) (W := 0) (by decide) (by decide) (g := (mkF m 409 #[.val (.long q0), .second, .val (.long q1), .second, .val (.long q2), .second, .val (.long q3), .second, .val (.long q4), .second, .val (.long q5), .second, .val (.ref b1), .val (.long mix), .second, .val (.ref b11), .val (.ref b27), .val (.ref b33), .val (.ref b39), .val (.ref b40), .val (.int ((((q5.toUInt64 >>> ((62 : Int32) &&& 0x3f).toInt64.toUInt64).toInt64) &&& (3 : Int64)).toInt32)), .val (.ref b33), .val (.int (1 : Int32))] [(.ref b11), (.ref b33), (.ref b40)])) rfl (by rw [hml]; rfl) pd_3 rfl rfl (by show 2 * 0 + _ ≤ _; exact Nat.le_of_eq rfl) (hb hby at_409) e50 (by decide) (by decide) N50
      have V_b1_51 := V_b1_48.keep K51 (ninS (Nat.ne_of_lt lt_b1_b40) nin0)
      have V_b11_51 := V_b11_48.keep K51 (ninS (Nat.ne_of_lt lt_b11_b40) nin0)
      have V_b27_51 := V_b27_48.keep K51 (ninS (Nat.ne_of_lt lt_b27_b40) nin0)
      have V_b39_51 := V_b39_48.keep K51 (ninS (Nat.ne_of_lt lt_b39_b40) nin0)
      have V_b33_51 := V48.keep K51 (ninS (Nat.ne_of_lt lt_b33_b40) nin0)
      have sz_51 := Nat.le_trans sz_48 K51.1
      refine own_go (T' := T51) (g' := (mkF m 412 #[.val (.long q0), .second, .val (.long q1), .second, .val (.long q2), .second, .val (.long q3), .second, .val (.long q4), .second, .val (.long q5), .second, .val (.ref b1), .val (.long mix), .second, .val (.ref b11), .val (.ref b27), .val (.ref b33), .val (.ref b39), .val (.ref b40), .val (.int ((((q5.toUInt64 >>> ((62 : Int32) &&& 0x3f).toInt64.toUInt64).toInt64) &&& (3 : Int64)).toInt32)), .val (.ref b33), .val (.int (1 : Int32))] [])) st51 ?_
      refine own_go (T' := T51) (g' := (mkF m 421 #[.val (.long q0), .second, .val (.long q1), .second, .val (.long q2), .second, .val (.long q3), .second, .val (.long q4), .second, .val (.long q5), .second, .val (.ref b1), .val (.long mix), .second, .val (.ref b11), .val (.ref b27), .val (.ref b33), .val (.ref b39), .val (.ref b40), .val (.int ((((q5.toUInt64 >>> ((62 : Int32) &&& 0x3f).toInt64.toUInt64).toInt64) &&& (3 : Int64)).toInt32)), .val (.ref b33), .val (.int (1 : Int32))] [(.ref b1), (.ref b40)])) (fun t k => ?_) ?_
      · show Steps p.tables e below (T51.setTop (mkF m 412 #[.val (.long q0), .second, .val (.long q1), .second, .val (.long q2), .second, .val (.long q3), .second, .val (.long q4), .second, .val (.long q5), .second, .val (.ref b1), .val (.long mix), .second, .val (.ref b11), .val (.ref b27), .val (.ref b33), .val (.ref b39), .val (.ref b40), .val (.int ((((q5.toUInt64 >>> ((62 : Int32) &&& 0x3f).toInt64.toUInt64).toInt64) &&& (3 : Int64)).toInt32)), .val (.ref b33), .val (.int (1 : Int32))] [])) t
        refine XS.iload X51.here hx rfl (hb hby at_412) rfl ?_
        show Steps p.tables e below (T51.setTop (mkF m 414 #[.val (.long q0), .second, .val (.long q1), .second, .val (.long q2), .second, .val (.long q3), .second, .val (.long q4), .second, .val (.long q5), .second, .val (.ref b1), .val (.long mix), .second, .val (.ref b11), .val (.ref b27), .val (.ref b33), .val (.ref b39), .val (.ref b40), .val (.int ((((q5.toUInt64 >>> ((62 : Int32) &&& 0x3f).toInt64.toUInt64).toInt64) &&& (3 : Int64)).toInt32)), .val (.ref b33), .val (.int (1 : Int32))] [(.int (1 : Int32))])) _
        refine XS.ifNo X51.here hx rfl (hb hby at_414) rfl ((if0 _ _).trans (feq (by decide)).1) ?_
        show Steps p.tables e below (T51.setTop (mkF m 417 #[.val (.long q0), .second, .val (.long q1), .second, .val (.long q2), .second, .val (.long q3), .second, .val (.long q4), .second, .val (.long q5), .second, .val (.ref b1), .val (.long mix), .second, .val (.ref b11), .val (.ref b27), .val (.ref b33), .val (.ref b39), .val (.ref b40), .val (.int ((((q5.toUInt64 >>> ((62 : Int32) &&& 0x3f).toInt64.toUInt64).toInt64) &&& (3 : Int64)).toInt32)), .val (.ref b33), .val (.int (1 : Int32))] [])) _
        refine XS.aload X51.here hx rfl (hb hby at_417) rfl rfl ?_
        show Steps p.tables e below (T51.setTop (mkF m 419 #[.val (.long q0), .second, .val (.long q1), .second, .val (.long q2), .second, .val (.long q3), .second, .val (.long q4), .second, .val (.long q5), .second, .val (.ref b1), .val (.long mix), .second, .val (.ref b11), .val (.ref b27), .val (.ref b33), .val (.ref b39), .val (.ref b40), .val (.int ((((q5.toUInt64 >>> ((62 : Int32) &&& 0x3f).toInt64.toUInt64).toInt64) &&& (3 : Int64)).toInt32)), .val (.ref b33), .val (.int (1 : Int32))] [(.ref b40)])) _
        refine XS.aload X51.here hx rfl (hb hby at_419) rfl rfl ?_
        show Steps p.tables e below (T51.setTop (mkF m 421 #[.val (.long q0), .second, .val (.long q1), .second, .val (.long q2), .second, .val (.long q3), .second, .val (.long q4), .second, .val (.long q5), .second, .val (.ref b1), .val (.long mix), .second, .val (.ref b11), .val (.ref b27), .val (.ref b33), .val (.ref b39), .val (.ref b40), .val (.int ((((q5.toUInt64 >>> ((62 : Int32) &&& 0x3f).toInt64.toUInt64).toInt64) &&& (3 : Int64)).toInt32)), .val (.ref b33), .val (.int (1 : Int32))] [(.ref b1), (.ref b40)])) _
        exact k
      obtain ⟨_, T52, L52, X52, N52, ⟨rfl, e52⟩, st52⟩ := own_callS X51 hx hZ hown (hw _ (List.mem_of_getElem? (i := 32) rfl)) (hw _ (List.mem_of_getElem? (i := 33) rfl)) (hw _ (List.mem_of_getElem? (i := 16) rfl)) (hw _ (List.mem_of_getElem? (i := 34) rfl)) (by decide) (argsL := [(.ref b40), (.ref b1)]) (rest := []) (rm7 l Z a0 hw b40 b1 k40 (((Ht0 &&& (4503599627370495 : Int64)) &&& Hm2) ||| ((Hs0 &&& (4503599627370495 : Int64)) &&& (Hm2 ^^^ (-1 : Int64)))) (((Ht1 &&& (4503599627370495 : Int64)) &&& Hm2) ||| ((Hs1 &&& (4503599627370495 : Int64)) &&& (Hm2 ^^^ (-1 : Int64)))) (((Ht2 &&& (4503599627370495 : Int64)) &&& Hm2) ||| ((Hs2 &&& (4503599627370495 : Int64)) &&& (Hm2 ^^^ (-1 : Int64)))) (((Ht3 &&& (4503599627370495 : Int64)) &&& Hm2) ||| ((Hs3 &&& (4503599627370495 : Int64)) &&& (Hm2 ^^^ (-1 : Int64)))) ((Ht4 &&& Hm2) ||| (Hs4 &&& (Hm2 ^^^ (-1 : Int64)))) k1 x0 x1 x2 x3 y8 T51.heap n0 V51 V_b1_51) (W := 0) (by decide) (by decide) (g := (mkF m 421 #[.val (.long q0), .second, .val (.long q1), .second, .val (.long q2), .second, .val (.long q3), .second, .val (.long q4), .second, .val (.long q5), .second, .val (.ref b1), .val (.long mix), .second, .val (.ref b11), .val (.ref b27), .val (.ref b33), .val (.ref b39), .val (.ref b40), .val (.int ((((q5.toUInt64 >>> ((62 : Int32) &&& 0x3f).toInt64.toUInt64).toInt64) &&& (3 : Int64)).toInt32)), .val (.ref b33), .val (.int (1 : Int32))] [(.ref b1), (.ref b40)])) rfl (by rw [hml]; rfl) pd_4 rfl rfl (by show 2 * 0 + _ ≤ _; exact Nat.le_of_eq rfl) (hb hby at_421) rfl (by decide) (by decide) N51
      refine own_go (T' := T52) (g' := (mkF m 424 #[.val (.long q0), .second, .val (.long q1), .second, .val (.long q2), .second, .val (.long q3), .second, .val (.long q4), .second, .val (.long q5), .second, .val (.ref b1), .val (.long mix), .second, .val (.ref b11), .val (.ref b27), .val (.ref b33), .val (.ref b39), .val (.ref b40), .val (.int ((((q5.toUInt64 >>> ((62 : Int32) &&& 0x3f).toInt64.toUInt64).toInt64) &&& (3 : Int64)).toInt32)), .val (.ref b33), .val (.int (1 : Int32))] [(.int (f7_0 (((Ht0 &&& (4503599627370495 : Int64)) &&& Hm2) ||| ((Hs0 &&& (4503599627370495 : Int64)) &&& (Hm2 ^^^ (-1 : Int64)))) (((Ht1 &&& (4503599627370495 : Int64)) &&& Hm2) ||| ((Hs1 &&& (4503599627370495 : Int64)) &&& (Hm2 ^^^ (-1 : Int64)))) (((Ht2 &&& (4503599627370495 : Int64)) &&& Hm2) ||| ((Hs2 &&& (4503599627370495 : Int64)) &&& (Hm2 ^^^ (-1 : Int64)))) (((Ht3 &&& (4503599627370495 : Int64)) &&& Hm2) ||| ((Hs3 &&& (4503599627370495 : Int64)) &&& (Hm2 ^^^ (-1 : Int64)))) ((Ht4 &&& Hm2) ||| (Hs4 &&& (Hm2 ^^^ (-1 : Int64)))) x0 x1 x2 x3 y8))])) st52 ?_
      refine own_go (T' := T52) (g' := (mkF m 432 #[.val (.long q0), .second, .val (.long q1), .second, .val (.long q2), .second, .val (.long q3), .second, .val (.long q4), .second, .val (.long q5), .second, .val (.ref b1), .val (.long mix), .second, .val (.ref b11), .val (.ref b27), .val (.ref b33), .val (.ref b39), .val (.ref b40), .val (.int ((((q5.toUInt64 >>> ((62 : Int32) &&& 0x3f).toInt64.toUInt64).toInt64) &&& (3 : Int64)).toInt32)), .val (.ref b33), .val (.int (1 : Int32))] [(.int (1 : Int32))])) (fun t k => ?_) ?_
      · show Steps p.tables e below (T52.setTop (mkF m 424 #[.val (.long q0), .second, .val (.long q1), .second, .val (.long q2), .second, .val (.long q3), .second, .val (.long q4), .second, .val (.long q5), .second, .val (.ref b1), .val (.long mix), .second, .val (.ref b11), .val (.ref b27), .val (.ref b33), .val (.ref b39), .val (.ref b40), .val (.int ((((q5.toUInt64 >>> ((62 : Int32) &&& 0x3f).toInt64.toUInt64).toInt64) &&& (3 : Int64)).toInt32)), .val (.ref b33), .val (.int (1 : Int32))] [(.int (f7_0 (((Ht0 &&& (4503599627370495 : Int64)) &&& Hm2) ||| ((Hs0 &&& (4503599627370495 : Int64)) &&& (Hm2 ^^^ (-1 : Int64)))) (((Ht1 &&& (4503599627370495 : Int64)) &&& Hm2) ||| ((Hs1 &&& (4503599627370495 : Int64)) &&& (Hm2 ^^^ (-1 : Int64)))) (((Ht2 &&& (4503599627370495 : Int64)) &&& Hm2) ||| ((Hs2 &&& (4503599627370495 : Int64)) &&& (Hm2 ^^^ (-1 : Int64)))) (((Ht3 &&& (4503599627370495 : Int64)) &&& Hm2) ||| ((Hs3 &&& (4503599627370495 : Int64)) &&& (Hm2 ^^^ (-1 : Int64)))) ((Ht4 &&& Hm2) ||| (Hs4 &&& (Hm2 ^^^ (-1 : Int64)))) x0 x1 x2 x3 y8))])) t
        refine XS.ifNo X52.here hx rfl (hb hby at_424) rfl ((if0 _ _).trans (feq (own_main2 Ha Hb Hr.2.2 E51 G51)).1) ?_
        show Steps p.tables e below (T52.setTop (mkF m 427 #[.val (.long q0), .second, .val (.long q1), .second, .val (.long q2), .second, .val (.long q3), .second, .val (.long q4), .second, .val (.long q5), .second, .val (.ref b1), .val (.long mix), .second, .val (.ref b11), .val (.ref b27), .val (.ref b33), .val (.ref b39), .val (.ref b40), .val (.int ((((q5.toUInt64 >>> ((62 : Int32) &&& 0x3f).toInt64.toUInt64).toInt64) &&& (3 : Int64)).toInt32)), .val (.ref b33), .val (.int (1 : Int32))] [])) _
        refine XS.iconst X52.here hx rfl (hb hby at_427) ?_
        show Steps p.tables e below (T52.setTop (mkF m 428 #[.val (.long q0), .second, .val (.long q1), .second, .val (.long q2), .second, .val (.long q3), .second, .val (.long q4), .second, .val (.long q5), .second, .val (.ref b1), .val (.long mix), .second, .val (.ref b11), .val (.ref b27), .val (.ref b33), .val (.ref b39), .val (.ref b40), .val (.int ((((q5.toUInt64 >>> ((62 : Int32) &&& 0x3f).toInt64.toUInt64).toInt64) &&& (3 : Int64)).toInt32)), .val (.ref b33), .val (.int (1 : Int32))] [(.int (1 : Int32))])) _
        refine XS.goto X52.here hx rfl (pc0 := 428) (pc' := 432) rfl (hb hby at_428) (by decide) (by decide) ?_
        show Steps p.tables e below (T52.setTop (mkF m 432 #[.val (.long q0), .second, .val (.long q1), .second, .val (.long q2), .second, .val (.long q3), .second, .val (.long q4), .second, .val (.long q5), .second, .val (.ref b1), .val (.long mix), .second, .val (.ref b11), .val (.ref b27), .val (.ref b33), .val (.ref b39), .val (.ref b40), .val (.int ((((q5.toUInt64 >>> ((62 : Int32) &&& 0x3f).toInt64.toUInt64).toInt64) &&& (3 : Int64)).toInt32)), .val (.ref b33), .val (.int (1 : Int32))] [(.int (1 : Int32))])) _
        exact k
      exact own_retN X52 hx hlk hret (by simp) (hb hby at_432) (by decide) (by decide) N52 ⟨rfl, trivial⟩
    · refine own_go (T' := T40) (g' := (mkF m 371 #[.val (.long q0), .second, .val (.long q1), .second, .val (.long q2), .second, .val (.long q3), .second, .val (.long q4), .second, .val (.long q5), .second, .val (.ref b1), .val (.long mix), .second, .val (.ref b11), .val (.ref b27), .val (.ref b33), .val (.ref b39), .val (.ref b40), .val (.int ((((q5.toUInt64 >>> ((62 : Int32) &&& 0x3f).toInt64.toUInt64).toInt64) &&& (3 : Int64)).toInt32)), .val (.ref b39), .unset] [])) (fun t k => ?_) ?_
      · refine XS.icmpYes X40.here hx rfl (pc0 := 364) (pc' := 371) rfl (hb hby at_364) rfl (feq hc364_47).2 (by decide) (by decide) ?_
        exact k
      refine own_go (T' := T40) (g' := (mkF m 377 #[.val (.long q0), .second, .val (.long q1), .second, .val (.long q2), .second, .val (.long q3), .second, .val (.long q4), .second, .val (.long q5), .second, .val (.ref b1), .val (.long mix), .second, .val (.ref b11), .val (.ref b27), .val (.ref b33), .val (.ref b39), .val (.ref b40), .val (.int ((((q5.toUInt64 >>> ((62 : Int32) &&& 0x3f).toInt64.toUInt64).toInt64) &&& (3 : Int64)).toInt32)), .val (.ref b39), .unset] [(.ref b33), (.ref b27), (.ref b39)])) (fun t k => ?_) ?_
      · show Steps p.tables e below (T40.setTop (mkF m 371 #[.val (.long q0), .second, .val (.long q1), .second, .val (.long q2), .second, .val (.long q3), .second, .val (.long q4), .second, .val (.long q5), .second, .val (.ref b1), .val (.long mix), .second, .val (.ref b11), .val (.ref b27), .val (.ref b33), .val (.ref b39), .val (.ref b40), .val (.int ((((q5.toUInt64 >>> ((62 : Int32) &&& 0x3f).toInt64.toUInt64).toInt64) &&& (3 : Int64)).toInt32)), .val (.ref b39), .unset] [])) t
        refine XS.aload X40.here hx rfl (hb hby at_371) rfl rfl ?_
        show Steps p.tables e below (T40.setTop (mkF m 373 #[.val (.long q0), .second, .val (.long q1), .second, .val (.long q2), .second, .val (.long q3), .second, .val (.long q4), .second, .val (.long q5), .second, .val (.ref b1), .val (.long mix), .second, .val (.ref b11), .val (.ref b27), .val (.ref b33), .val (.ref b39), .val (.ref b40), .val (.int ((((q5.toUInt64 >>> ((62 : Int32) &&& 0x3f).toInt64.toUInt64).toInt64) &&& (3 : Int64)).toInt32)), .val (.ref b39), .unset] [(.ref b39)])) _
        refine XS.aload X40.here hx rfl (hb hby at_373) rfl rfl ?_
        show Steps p.tables e below (T40.setTop (mkF m 375 #[.val (.long q0), .second, .val (.long q1), .second, .val (.long q2), .second, .val (.long q3), .second, .val (.long q4), .second, .val (.long q5), .second, .val (.ref b1), .val (.long mix), .second, .val (.ref b11), .val (.ref b27), .val (.ref b33), .val (.ref b39), .val (.ref b40), .val (.int ((((q5.toUInt64 >>> ((62 : Int32) &&& 0x3f).toInt64.toUInt64).toInt64) &&& (3 : Int64)).toInt32)), .val (.ref b39), .unset] [(.ref b27), (.ref b39)])) _
        refine XS.aload X40.here hx rfl (hb hby at_375) rfl rfl ?_
        show Steps p.tables e below (T40.setTop (mkF m 377 #[.val (.long q0), .second, .val (.long q1), .second, .val (.long q2), .second, .val (.long q3), .second, .val (.long q4), .second, .val (.long q5), .second, .val (.ref b1), .val (.long mix), .second, .val (.ref b11), .val (.ref b27), .val (.ref b33), .val (.ref b39), .val (.ref b40), .val (.int ((((q5.toUInt64 >>> ((62 : Int32) &&& 0x3f).toInt64.toUInt64).toInt64) &&& (3 : Int64)).toInt32)), .val (.ref b39), .unset] [(.ref b33), (.ref b27), (.ref b39)])) _
        exact k
      obtain ⟨_, T53, L53, X53, N53, ⟨rfl, K53, Gt0, Gt1, Gt2, Gt3, Gt4, Gm1, Gu0, Gu1, Gu2, Gu3, Gu4, E53, V53⟩, st53⟩ := own_callS X40 hx hZ hown (hw _ (List.mem_of_getElem? (i := 14) rfl)) (hw _ (List.mem_of_getElem? (i := 15) rfl)) (hw _ (List.mem_of_getElem? (i := 16) rfl)) (hw _ (List.mem_of_getElem? (i := 17) rfl)) (by decide) (argsL := [(.ref b39), (.ref b27), (.ref b33)]) (rest := []) (rm3 l Z a0 hw b39 b27 b33 k39 k27 k33 (0 : Int64) (0 : Int64) (0 : Int64) (0 : Int64) (0 : Int64) x0 x1 x2 x3 y8 w0 w1 w2 w3 y24 h40 n0 sz_40 ga_b39 V_b39_40 V_b27_40 V_b33_40) (W := 0) (by decide) (by decide) (g := (mkF m 377 #[.val (.long q0), .second, .val (.long q1), .second, .val (.long q2), .second, .val (.long q3), .second, .val (.long q4), .second, .val (.long q5), .second, .val (.ref b1), .val (.long mix), .second, .val (.ref b11), .val (.ref b27), .val (.ref b33), .val (.ref b39), .val (.ref b40), .val (.int ((((q5.toUInt64 >>> ((62 : Int32) &&& 0x3f).toInt64.toUInt64).toInt64) &&& (3 : Int64)).toInt32)), .val (.ref b39), .unset] [(.ref b33), (.ref b27), (.ref b39)])) rfl (by rw [hml]; rfl) pd_3 rfl rfl (by show 2 * 0 + _ ≤ _; exact Nat.le_of_eq rfl) (hb hby at_377) e40 (by decide) (by decide) N38
      have V_b1_53 := V_b1_40.keep K53 (ninS (Nat.ne_of_lt lt_b1_b39) nin0)
      have V_b11_53 := V_b11_40.keep K53 (ninS (Nat.ne_of_lt lt_b11_b39) nin0)
      have V_b27_53 := V_b27_40.keep K53 (ninS (Nat.ne_of_lt lt_b27_b39) nin0)
      have V_b33_53 := V_b33_40.keep K53 (ninS (Nat.ne_of_lt lt_b33_b39) nin0)
      have V_b40_53 := V_b40_40.keep K53 (ninS (Nat.ne_of_gt lt_b39_b40) nin0)
      have sz_53 := Nat.le_trans sz_40 K53.1
      refine own_go (T' := T53) (g' := (mkF m 380 #[.val (.long q0), .second, .val (.long q1), .second, .val (.long q2), .second, .val (.long q3), .second, .val (.long q4), .second, .val (.long q5), .second, .val (.ref b1), .val (.long mix), .second, .val (.ref b11), .val (.ref b27), .val (.ref b33), .val (.ref b39), .val (.ref b40), .val (.int ((((q5.toUInt64 >>> ((62 : Int32) &&& 0x3f).toInt64.toUInt64).toInt64) &&& (3 : Int64)).toInt32)), .val (.ref b39), .unset] [])) st53 ?_
      have Hr := own_main1 Ha Hb E53
      refine own_go (T' := T53) (g' := (mkF m 382 #[.val (.long q0), .second, .val (.long q1), .second, .val (.long q2), .second, .val (.long q3), .second, .val (.long q4), .second, .val (.long q5), .second, .val (.ref b1), .val (.long mix), .second, .val (.ref b11), .val (.ref b27), .val (.ref b33), .val (.ref b39), .val (.ref b40), .val (.int ((((q5.toUInt64 >>> ((62 : Int32) &&& 0x3f).toInt64.toUInt64).toInt64) &&& (3 : Int64)).toInt32)), .val (.ref b39), .unset] [(.ref b39)])) (fun t k => ?_) ?_
      · show Steps p.tables e below (T53.setTop (mkF m 380 #[.val (.long q0), .second, .val (.long q1), .second, .val (.long q2), .second, .val (.long q3), .second, .val (.long q4), .second, .val (.long q5), .second, .val (.ref b1), .val (.long mix), .second, .val (.ref b11), .val (.ref b27), .val (.ref b33), .val (.ref b39), .val (.ref b40), .val (.int ((((q5.toUInt64 >>> ((62 : Int32) &&& 0x3f).toInt64.toUInt64).toInt64) &&& (3 : Int64)).toInt32)), .val (.ref b39), .unset] [])) t
        refine XS.aload X53.here hx rfl (hb hby at_380) rfl rfl ?_
        show Steps p.tables e below (T53.setTop (mkF m 382 #[.val (.long q0), .second, .val (.long q1), .second, .val (.long q2), .second, .val (.long q3), .second, .val (.long q4), .second, .val (.long q5), .second, .val (.ref b1), .val (.long mix), .second, .val (.ref b11), .val (.ref b27), .val (.ref b33), .val (.ref b39), .val (.ref b40), .val (.int ((((q5.toUInt64 >>> ((62 : Int32) &&& 0x3f).toInt64.toUInt64).toInt64) &&& (3 : Int64)).toInt32)), .val (.ref b39), .unset] [(.ref b39)])) _
        exact k
      obtain ⟨_, T54, L54, X54, N54, ⟨rfl, e54⟩, st54⟩ := own_callS X53 hx hZ hown (hw _ (List.mem_of_getElem? (i := 22) rfl)) (hw _ (List.mem_of_getElem? (i := 23) rfl)) (hw _ (List.mem_of_getElem? (i := 5) rfl)) (hw _ (List.mem_of_getElem? (i := 24) rfl)) (by decide) (argsL := [(.ref b39)]) (rest := []) (rm4 l Z a0 hw b39 k39 (Gu0 &&& (4503599627370495 : Int64)) (Gu1 &&& (4503599627370495 : Int64)) (Gu2 &&& (4503599627370495 : Int64)) (Gu3 &&& (4503599627370495 : Int64)) Gu4 T53.heap n0 V53) (W := 0) (by decide) (by decide) (g := (mkF m 382 #[.val (.long q0), .second, .val (.long q1), .second, .val (.long q2), .second, .val (.long q3), .second, .val (.long q4), .second, .val (.long q5), .second, .val (.ref b1), .val (.long mix), .second, .val (.ref b11), .val (.ref b27), .val (.ref b33), .val (.ref b39), .val (.ref b40), .val (.int ((((q5.toUInt64 >>> ((62 : Int32) &&& 0x3f).toInt64.toUInt64).toInt64) &&& (3 : Int64)).toInt32)), .val (.ref b39), .unset] [(.ref b39)])) rfl (by rw [hml]; rfl) pd_1 rfl rfl (by show 2 * 0 + _ ≤ _; exact Nat.le_of_eq rfl) (hb hby at_382) rfl (by decide) (by decide) N53
      refine own_go (T' := T54) (g' := (mkF m 385 #[.val (.long q0), .second, .val (.long q1), .second, .val (.long q2), .second, .val (.long q3), .second, .val (.long q4), .second, .val (.long q5), .second, .val (.ref b1), .val (.long mix), .second, .val (.ref b11), .val (.ref b27), .val (.ref b33), .val (.ref b39), .val (.ref b40), .val (.int ((((q5.toUInt64 >>> ((62 : Int32) &&& 0x3f).toInt64.toUInt64).toInt64) &&& (3 : Int64)).toInt32)), .val (.ref b39), .unset] [(.int (f4_0 (Gu0 &&& (4503599627370495 : Int64)) (Gu1 &&& (4503599627370495 : Int64)) (Gu2 &&& (4503599627370495 : Int64)) (Gu3 &&& (4503599627370495 : Int64)) Gu4))])) st54 ?_
      refine own_go (T' := T54) (g' := (mkF m 390 #[.val (.long q0), .second, .val (.long q1), .second, .val (.long q2), .second, .val (.long q3), .second, .val (.long q4), .second, .val (.long q5), .second, .val (.ref b1), .val (.long mix), .second, .val (.ref b11), .val (.ref b27), .val (.ref b33), .val (.ref b39), .val (.ref b40), .val (.int ((((q5.toUInt64 >>> ((62 : Int32) &&& 0x3f).toInt64.toUInt64).toInt64) &&& (3 : Int64)).toInt32)), .val (.ref b39), .unset] [(.ref b39)])) (fun t k => ?_) ?_
      · show Steps p.tables e below (T54.setTop (mkF m 385 #[.val (.long q0), .second, .val (.long q1), .second, .val (.long q2), .second, .val (.long q3), .second, .val (.long q4), .second, .val (.long q5), .second, .val (.ref b1), .val (.long mix), .second, .val (.ref b11), .val (.ref b27), .val (.ref b33), .val (.ref b39), .val (.ref b40), .val (.int ((((q5.toUInt64 >>> ((62 : Int32) &&& 0x3f).toInt64.toUInt64).toInt64) &&& (3 : Int64)).toInt32)), .val (.ref b39), .unset] [(.int (f4_0 (Gu0 &&& (4503599627370495 : Int64)) (Gu1 &&& (4503599627370495 : Int64)) (Gu2 &&& (4503599627370495 : Int64)) (Gu3 &&& (4503599627370495 : Int64)) Gu4))])) t
        refine XS.ifNo X54.here hx rfl (hb hby at_385) rfl ((if0 _ _).trans (feq Hr.1).1) ?_
        show Steps p.tables e below (T54.setTop (mkF m 388 #[.val (.long q0), .second, .val (.long q1), .second, .val (.long q2), .second, .val (.long q3), .second, .val (.long q4), .second, .val (.long q5), .second, .val (.ref b1), .val (.long mix), .second, .val (.ref b11), .val (.ref b27), .val (.ref b33), .val (.ref b39), .val (.ref b40), .val (.int ((((q5.toUInt64 >>> ((62 : Int32) &&& 0x3f).toInt64.toUInt64).toInt64) &&& (3 : Int64)).toInt32)), .val (.ref b39), .unset] [])) _
        refine XS.aload X54.here hx rfl (hb hby at_388) rfl rfl ?_
        show Steps p.tables e below (T54.setTop (mkF m 390 #[.val (.long q0), .second, .val (.long q1), .second, .val (.long q2), .second, .val (.long q3), .second, .val (.long q4), .second, .val (.long q5), .second, .val (.ref b1), .val (.long mix), .second, .val (.ref b11), .val (.ref b27), .val (.ref b33), .val (.ref b39), .val (.ref b40), .val (.int ((((q5.toUInt64 >>> ((62 : Int32) &&& 0x3f).toInt64.toUInt64).toInt64) &&& (3 : Int64)).toInt32)), .val (.ref b39), .unset] [(.ref b39)])) _
        exact k
      obtain ⟨_, T55, L55, X55, N55, ⟨rfl, e55⟩, st55⟩ := own_callS X54 hx hZ hown (hw _ (List.mem_of_getElem? (i := 3) rfl)) (hw _ (List.mem_of_getElem? (i := 4) rfl)) (hw _ (List.mem_of_getElem? (i := 5) rfl)) (hw _ (List.mem_of_getElem? (i := 6) rfl)) (by decide) (argsL := [(.ref b39)]) (rest := []) (rm1 l Z a0 hw b39 k39 (Gu0 &&& (4503599627370495 : Int64)) (Gu1 &&& (4503599627370495 : Int64)) (Gu2 &&& (4503599627370495 : Int64)) (Gu3 &&& (4503599627370495 : Int64)) Gu4 T53.heap n0 V53) (W := 0) (by decide) (by decide) (g := (mkF m 390 #[.val (.long q0), .second, .val (.long q1), .second, .val (.long q2), .second, .val (.long q3), .second, .val (.long q4), .second, .val (.long q5), .second, .val (.ref b1), .val (.long mix), .second, .val (.ref b11), .val (.ref b27), .val (.ref b33), .val (.ref b39), .val (.ref b40), .val (.int ((((q5.toUInt64 >>> ((62 : Int32) &&& 0x3f).toInt64.toUInt64).toInt64) &&& (3 : Int64)).toInt32)), .val (.ref b39), .unset] [(.ref b39)])) rfl (by rw [hml]; rfl) pd_1 rfl rfl (by show 2 * 0 + _ ≤ _; exact Nat.le_of_eq rfl) (hb hby at_390) e54 (by decide) (by decide) N54
      refine own_go (T' := T55) (g' := (mkF m 393 #[.val (.long q0), .second, .val (.long q1), .second, .val (.long q2), .second, .val (.long q3), .second, .val (.long q4), .second, .val (.long q5), .second, .val (.ref b1), .val (.long mix), .second, .val (.ref b11), .val (.ref b27), .val (.ref b33), .val (.ref b39), .val (.ref b40), .val (.int ((((q5.toUInt64 >>> ((62 : Int32) &&& 0x3f).toInt64.toUInt64).toInt64) &&& (3 : Int64)).toInt32)), .val (.ref b39), .unset] [(.int (f1_0 (Gu0 &&& (4503599627370495 : Int64)) (Gu1 &&& (4503599627370495 : Int64)) (Gu2 &&& (4503599627370495 : Int64)) (Gu3 &&& (4503599627370495 : Int64)) Gu4))])) st55 ?_
      refine own_go (T' := T55) (g' := (mkF m 409 #[.val (.long q0), .second, .val (.long q1), .second, .val (.long q2), .second, .val (.long q3), .second, .val (.long q4), .second, .val (.long q5), .second, .val (.ref b1), .val (.long mix), .second, .val (.ref b11), .val (.ref b27), .val (.ref b33), .val (.ref b39), .val (.ref b40), .val (.int ((((q5.toUInt64 >>> ((62 : Int32) &&& 0x3f).toInt64.toUInt64).toInt64) &&& (3 : Int64)).toInt32)), .val (.ref b39), .val (.int (1 : Int32))] [(.ref b11), (.ref b39), (.ref b40)])) (fun t k => ?_) ?_
      · show Steps p.tables e below (T55.setTop (mkF m 393 #[.val (.long q0), .second, .val (.long q1), .second, .val (.long q2), .second, .val (.long q3), .second, .val (.long q4), .second, .val (.long q5), .second, .val (.ref b1), .val (.long mix), .second, .val (.ref b11), .val (.ref b27), .val (.ref b33), .val (.ref b39), .val (.ref b40), .val (.int ((((q5.toUInt64 >>> ((62 : Int32) &&& 0x3f).toInt64.toUInt64).toInt64) &&& (3 : Int64)).toInt32)), .val (.ref b39), .unset] [(.int (f1_0 (Gu0 &&& (4503599627370495 : Int64)) (Gu1 &&& (4503599627370495 : Int64)) (Gu2 &&& (4503599627370495 : Int64)) (Gu3 &&& (4503599627370495 : Int64)) Gu4))])) t
        refine XS.ifNo X55.here hx rfl (hb hby at_393) rfl ((if0 _ _).trans (feq Hr.2.1).1) ?_
        show Steps p.tables e below (T55.setTop (mkF m 396 #[.val (.long q0), .second, .val (.long q1), .second, .val (.long q2), .second, .val (.long q3), .second, .val (.long q4), .second, .val (.long q5), .second, .val (.ref b1), .val (.long mix), .second, .val (.ref b11), .val (.ref b27), .val (.ref b33), .val (.ref b39), .val (.ref b40), .val (.int ((((q5.toUInt64 >>> ((62 : Int32) &&& 0x3f).toInt64.toUInt64).toInt64) &&& (3 : Int64)).toInt32)), .val (.ref b39), .unset] [])) _
        refine XS.iconst X55.here hx rfl (hb hby at_396) ?_
        show Steps p.tables e below (T55.setTop (mkF m 397 #[.val (.long q0), .second, .val (.long q1), .second, .val (.long q2), .second, .val (.long q3), .second, .val (.long q4), .second, .val (.long q5), .second, .val (.ref b1), .val (.long mix), .second, .val (.ref b11), .val (.ref b27), .val (.ref b33), .val (.ref b39), .val (.ref b40), .val (.int ((((q5.toUInt64 >>> ((62 : Int32) &&& 0x3f).toInt64.toUInt64).toInt64) &&& (3 : Int64)).toInt32)), .val (.ref b39), .unset] [(.int (1 : Int32))])) _
        refine XS.goto X55.here hx rfl (pc0 := 397) (pc' := 401) rfl (hb hby at_397) (by decide) (by decide) ?_
        show Steps p.tables e below (T55.setTop (mkF m 401 #[.val (.long q0), .second, .val (.long q1), .second, .val (.long q2), .second, .val (.long q3), .second, .val (.long q4), .second, .val (.long q5), .second, .val (.ref b1), .val (.long mix), .second, .val (.ref b11), .val (.ref b27), .val (.ref b33), .val (.ref b39), .val (.ref b40), .val (.int ((((q5.toUInt64 >>> ((62 : Int32) &&& 0x3f).toInt64.toUInt64).toInt64) &&& (3 : Int64)).toInt32)), .val (.ref b39), .unset] [(.int (1 : Int32))])) _
        refine XS.istore X55.here hx rfl (hb hby at_401) rfl (l' := #[.val (.long q0), .second, .val (.long q1), .second, .val (.long q2), .second, .val (.long q3), .second, .val (.long q4), .second, .val (.long q5), .second, .val (.ref b1), .val (.long mix), .second, .val (.ref b11), .val (.ref b27), .val (.ref b33), .val (.ref b39), .val (.ref b40), .val (.int ((((q5.toUInt64 >>> ((62 : Int32) &&& 0x3f).toInt64.toUInt64).toInt64) &&& (3 : Int64)).toInt32)), .val (.ref b39), .val (.int (1 : Int32))]) rfl ?_
        show Steps p.tables e below (T55.setTop (mkF m 403 #[.val (.long q0), .second, .val (.long q1), .second, .val (.long q2), .second, .val (.long q3), .second, .val (.long q4), .second, .val (.long q5), .second, .val (.ref b1), .val (.long mix), .second, .val (.ref b11), .val (.ref b27), .val (.ref b33), .val (.ref b39), .val (.ref b40), .val (.int ((((q5.toUInt64 >>> ((62 : Int32) &&& 0x3f).toInt64.toUInt64).toInt64) &&& (3 : Int64)).toInt32)), .val (.ref b39), .val (.int (1 : Int32))] [])) _
        refine XS.aload X55.here hx rfl (hb hby at_403) rfl rfl ?_
        show Steps p.tables e below (T55.setTop (mkF m 405 #[.val (.long q0), .second, .val (.long q1), .second, .val (.long q2), .second, .val (.long q3), .second, .val (.long q4), .second, .val (.long q5), .second, .val (.ref b1), .val (.long mix), .second, .val (.ref b11), .val (.ref b27), .val (.ref b33), .val (.ref b39), .val (.ref b40), .val (.int ((((q5.toUInt64 >>> ((62 : Int32) &&& 0x3f).toInt64.toUInt64).toInt64) &&& (3 : Int64)).toInt32)), .val (.ref b39), .val (.int (1 : Int32))] [(.ref b40)])) _
        refine XS.aload X55.here hx rfl (hb hby at_405) rfl rfl ?_
        show Steps p.tables e below (T55.setTop (mkF m 407 #[.val (.long q0), .second, .val (.long q1), .second, .val (.long q2), .second, .val (.long q3), .second, .val (.long q4), .second, .val (.long q5), .second, .val (.ref b1), .val (.long mix), .second, .val (.ref b11), .val (.ref b27), .val (.ref b33), .val (.ref b39), .val (.ref b40), .val (.int ((((q5.toUInt64 >>> ((62 : Int32) &&& 0x3f).toInt64.toUInt64).toInt64) &&& (3 : Int64)).toInt32)), .val (.ref b39), .val (.int (1 : Int32))] [(.ref b39), (.ref b40)])) _
        refine XS.aload X55.here hx rfl (hb hby at_407) rfl rfl ?_
        show Steps p.tables e below (T55.setTop (mkF m 409 #[.val (.long q0), .second, .val (.long q1), .second, .val (.long q2), .second, .val (.long q3), .second, .val (.long q4), .second, .val (.long q5), .second, .val (.ref b1), .val (.long mix), .second, .val (.ref b11), .val (.ref b27), .val (.ref b33), .val (.ref b39), .val (.ref b40), .val (.int ((((q5.toUInt64 >>> ((62 : Int32) &&& 0x3f).toInt64.toUInt64).toInt64) &&& (3 : Int64)).toInt32)), .val (.ref b39), .val (.int (1 : Int32))] [(.ref b11), (.ref b39), (.ref b40)])) _
        exact k
      obtain ⟨_, T56, L56, X56, N56, ⟨rfl, K56, Ht0, Ht1, Ht2, Ht3, Ht4, Hs0, Hs1, Hs2, Hs3, Hs4, Hm2, E56, G56, V56⟩, st56⟩ := own_callS X55 hx hZ hown (hw _ (List.mem_of_getElem? (i := 25) rfl)) (hw _ (List.mem_of_getElem? (i := 26) rfl)) (hw _ (List.mem_of_getElem? (i := 16) rfl)) (hw _ (List.mem_of_getElem? (i := 27) rfl)) (by decide) (argsL := [(.ref b40), (.ref b39), (.ref b11)]) (rest := []) (rm5 l Z a0 hw b40 b39 b11 k40 k39 k11 (0 : Int64) (0 : Int64) (0 : Int64) (0 : Int64) (0 : Int64) (Gu0 &&& (4503599627370495 : Int64)) (Gu1 &&& (4503599627370495 : Int64)) (Gu2 &&& (4503599627370495 : Int64)) (Gu3 &&& (4503599627370495 : Int64)) Gu4 w0 w1 w2 w3 y24 T53.heap n0 sz_53 ga_b40 V_b40_53 V53 V_b11_53) (W := 0) (by decide) (by decide) (g := (mkF m 409 #[.val (.long q0), .second, .val (.long q1), .second, .val (.long q2), .second, .val (.long q3), .second, .val (.long q4), .second, .val (.long q5), .second, .val (.ref b1), .val (.long mix), .second, .val (.ref b11), .val (.ref b27), .val (.ref b33), .val (.ref b39), .val (.ref b40), .val (.int ((((q5.toUInt64 >>> ((62 : Int32) &&& 0x3f).toInt64.toUInt64).toInt64) &&& (3 : Int64)).toInt32)), .val (.ref b39), .val (.int (1 : Int32))] [(.ref b11), (.ref b39), (.ref b40)])) rfl (by rw [hml]; rfl) pd_3 rfl rfl (by show 2 * 0 + _ ≤ _; exact Nat.le_of_eq rfl) (hb hby at_409) e55 (by decide) (by decide) N55
      have V_b1_56 := V_b1_53.keep K56 (ninS (Nat.ne_of_lt lt_b1_b40) nin0)
      have V_b11_56 := V_b11_53.keep K56 (ninS (Nat.ne_of_lt lt_b11_b40) nin0)
      have V_b27_56 := V_b27_53.keep K56 (ninS (Nat.ne_of_lt lt_b27_b40) nin0)
      have V_b33_56 := V_b33_53.keep K56 (ninS (Nat.ne_of_lt lt_b33_b40) nin0)
      have V_b39_56 := V53.keep K56 (ninS (Nat.ne_of_lt lt_b39_b40) nin0)
      have sz_56 := Nat.le_trans sz_53 K56.1
      refine own_go (T' := T56) (g' := (mkF m 412 #[.val (.long q0), .second, .val (.long q1), .second, .val (.long q2), .second, .val (.long q3), .second, .val (.long q4), .second, .val (.long q5), .second, .val (.ref b1), .val (.long mix), .second, .val (.ref b11), .val (.ref b27), .val (.ref b33), .val (.ref b39), .val (.ref b40), .val (.int ((((q5.toUInt64 >>> ((62 : Int32) &&& 0x3f).toInt64.toUInt64).toInt64) &&& (3 : Int64)).toInt32)), .val (.ref b39), .val (.int (1 : Int32))] [])) st56 ?_
      refine own_go (T' := T56) (g' := (mkF m 421 #[.val (.long q0), .second, .val (.long q1), .second, .val (.long q2), .second, .val (.long q3), .second, .val (.long q4), .second, .val (.long q5), .second, .val (.ref b1), .val (.long mix), .second, .val (.ref b11), .val (.ref b27), .val (.ref b33), .val (.ref b39), .val (.ref b40), .val (.int ((((q5.toUInt64 >>> ((62 : Int32) &&& 0x3f).toInt64.toUInt64).toInt64) &&& (3 : Int64)).toInt32)), .val (.ref b39), .val (.int (1 : Int32))] [(.ref b1), (.ref b40)])) (fun t k => ?_) ?_
      · show Steps p.tables e below (T56.setTop (mkF m 412 #[.val (.long q0), .second, .val (.long q1), .second, .val (.long q2), .second, .val (.long q3), .second, .val (.long q4), .second, .val (.long q5), .second, .val (.ref b1), .val (.long mix), .second, .val (.ref b11), .val (.ref b27), .val (.ref b33), .val (.ref b39), .val (.ref b40), .val (.int ((((q5.toUInt64 >>> ((62 : Int32) &&& 0x3f).toInt64.toUInt64).toInt64) &&& (3 : Int64)).toInt32)), .val (.ref b39), .val (.int (1 : Int32))] [])) t
        refine XS.iload X56.here hx rfl (hb hby at_412) rfl ?_
        show Steps p.tables e below (T56.setTop (mkF m 414 #[.val (.long q0), .second, .val (.long q1), .second, .val (.long q2), .second, .val (.long q3), .second, .val (.long q4), .second, .val (.long q5), .second, .val (.ref b1), .val (.long mix), .second, .val (.ref b11), .val (.ref b27), .val (.ref b33), .val (.ref b39), .val (.ref b40), .val (.int ((((q5.toUInt64 >>> ((62 : Int32) &&& 0x3f).toInt64.toUInt64).toInt64) &&& (3 : Int64)).toInt32)), .val (.ref b39), .val (.int (1 : Int32))] [(.int (1 : Int32))])) _
        refine XS.ifNo X56.here hx rfl (hb hby at_414) rfl ((if0 _ _).trans (feq (by decide)).1) ?_
        show Steps p.tables e below (T56.setTop (mkF m 417 #[.val (.long q0), .second, .val (.long q1), .second, .val (.long q2), .second, .val (.long q3), .second, .val (.long q4), .second, .val (.long q5), .second, .val (.ref b1), .val (.long mix), .second, .val (.ref b11), .val (.ref b27), .val (.ref b33), .val (.ref b39), .val (.ref b40), .val (.int ((((q5.toUInt64 >>> ((62 : Int32) &&& 0x3f).toInt64.toUInt64).toInt64) &&& (3 : Int64)).toInt32)), .val (.ref b39), .val (.int (1 : Int32))] [])) _
        refine XS.aload X56.here hx rfl (hb hby at_417) rfl rfl ?_
        show Steps p.tables e below (T56.setTop (mkF m 419 #[.val (.long q0), .second, .val (.long q1), .second, .val (.long q2), .second, .val (.long q3), .second, .val (.long q4), .second, .val (.long q5), .second, .val (.ref b1), .val (.long mix), .second, .val (.ref b11), .val (.ref b27), .val (.ref b33), .val (.ref b39), .val (.ref b40), .val (.int ((((q5.toUInt64 >>> ((62 : Int32) &&& 0x3f).toInt64.toUInt64).toInt64) &&& (3 : Int64)).toInt32)), .val (.ref b39), .val (.int (1 : Int32))] [(.ref b40)])) _
        refine XS.aload X56.here hx rfl (hb hby at_419) rfl rfl ?_
        show Steps p.tables e below (T56.setTop (mkF m 421 #[.val (.long q0), .second, .val (.long q1), .second, .val (.long q2), .second, .val (.long q3), .second, .val (.long q4), .second, .val (.long q5), .second, .val (.ref b1), .val (.long mix), .second, .val (.ref b11), .val (.ref b27), .val (.ref b33), .val (.ref b39), .val (.ref b40), .val (.int ((((q5.toUInt64 >>> ((62 : Int32) &&& 0x3f).toInt64.toUInt64).toInt64) &&& (3 : Int64)).toInt32)), .val (.ref b39), .val (.int (1 : Int32))] [(.ref b1), (.ref b40)])) _
        exact k
      obtain ⟨_, T57, L57, X57, N57, ⟨rfl, e57⟩, st57⟩ := own_callS X56 hx hZ hown (hw _ (List.mem_of_getElem? (i := 32) rfl)) (hw _ (List.mem_of_getElem? (i := 33) rfl)) (hw _ (List.mem_of_getElem? (i := 16) rfl)) (hw _ (List.mem_of_getElem? (i := 34) rfl)) (by decide) (argsL := [(.ref b40), (.ref b1)]) (rest := []) (rm7 l Z a0 hw b40 b1 k40 (((Ht0 &&& (4503599627370495 : Int64)) &&& Hm2) ||| ((Hs0 &&& (4503599627370495 : Int64)) &&& (Hm2 ^^^ (-1 : Int64)))) (((Ht1 &&& (4503599627370495 : Int64)) &&& Hm2) ||| ((Hs1 &&& (4503599627370495 : Int64)) &&& (Hm2 ^^^ (-1 : Int64)))) (((Ht2 &&& (4503599627370495 : Int64)) &&& Hm2) ||| ((Hs2 &&& (4503599627370495 : Int64)) &&& (Hm2 ^^^ (-1 : Int64)))) (((Ht3 &&& (4503599627370495 : Int64)) &&& Hm2) ||| ((Hs3 &&& (4503599627370495 : Int64)) &&& (Hm2 ^^^ (-1 : Int64)))) ((Ht4 &&& Hm2) ||| (Hs4 &&& (Hm2 ^^^ (-1 : Int64)))) k1 x0 x1 x2 x3 y8 T56.heap n0 V56 V_b1_56) (W := 0) (by decide) (by decide) (g := (mkF m 421 #[.val (.long q0), .second, .val (.long q1), .second, .val (.long q2), .second, .val (.long q3), .second, .val (.long q4), .second, .val (.long q5), .second, .val (.ref b1), .val (.long mix), .second, .val (.ref b11), .val (.ref b27), .val (.ref b33), .val (.ref b39), .val (.ref b40), .val (.int ((((q5.toUInt64 >>> ((62 : Int32) &&& 0x3f).toInt64.toUInt64).toInt64) &&& (3 : Int64)).toInt32)), .val (.ref b39), .val (.int (1 : Int32))] [(.ref b1), (.ref b40)])) rfl (by rw [hml]; rfl) pd_4 rfl rfl (by show 2 * 0 + _ ≤ _; exact Nat.le_of_eq rfl) (hb hby at_421) rfl (by decide) (by decide) N56
      refine own_go (T' := T57) (g' := (mkF m 424 #[.val (.long q0), .second, .val (.long q1), .second, .val (.long q2), .second, .val (.long q3), .second, .val (.long q4), .second, .val (.long q5), .second, .val (.ref b1), .val (.long mix), .second, .val (.ref b11), .val (.ref b27), .val (.ref b33), .val (.ref b39), .val (.ref b40), .val (.int ((((q5.toUInt64 >>> ((62 : Int32) &&& 0x3f).toInt64.toUInt64).toInt64) &&& (3 : Int64)).toInt32)), .val (.ref b39), .val (.int (1 : Int32))] [(.int (f7_0 (((Ht0 &&& (4503599627370495 : Int64)) &&& Hm2) ||| ((Hs0 &&& (4503599627370495 : Int64)) &&& (Hm2 ^^^ (-1 : Int64)))) (((Ht1 &&& (4503599627370495 : Int64)) &&& Hm2) ||| ((Hs1 &&& (4503599627370495 : Int64)) &&& (Hm2 ^^^ (-1 : Int64)))) (((Ht2 &&& (4503599627370495 : Int64)) &&& Hm2) ||| ((Hs2 &&& (4503599627370495 : Int64)) &&& (Hm2 ^^^ (-1 : Int64)))) (((Ht3 &&& (4503599627370495 : Int64)) &&& Hm2) ||| ((Hs3 &&& (4503599627370495 : Int64)) &&& (Hm2 ^^^ (-1 : Int64)))) ((Ht4 &&& Hm2) ||| (Hs4 &&& (Hm2 ^^^ (-1 : Int64)))) x0 x1 x2 x3 y8))])) st57 ?_
      refine own_go (T' := T57) (g' := (mkF m 432 #[.val (.long q0), .second, .val (.long q1), .second, .val (.long q2), .second, .val (.long q3), .second, .val (.long q4), .second, .val (.long q5), .second, .val (.ref b1), .val (.long mix), .second, .val (.ref b11), .val (.ref b27), .val (.ref b33), .val (.ref b39), .val (.ref b40), .val (.int ((((q5.toUInt64 >>> ((62 : Int32) &&& 0x3f).toInt64.toUInt64).toInt64) &&& (3 : Int64)).toInt32)), .val (.ref b39), .val (.int (1 : Int32))] [(.int (1 : Int32))])) (fun t k => ?_) ?_
      · show Steps p.tables e below (T57.setTop (mkF m 424 #[.val (.long q0), .second, .val (.long q1), .second, .val (.long q2), .second, .val (.long q3), .second, .val (.long q4), .second, .val (.long q5), .second, .val (.ref b1), .val (.long mix), .second, .val (.ref b11), .val (.ref b27), .val (.ref b33), .val (.ref b39), .val (.ref b40), .val (.int ((((q5.toUInt64 >>> ((62 : Int32) &&& 0x3f).toInt64.toUInt64).toInt64) &&& (3 : Int64)).toInt32)), .val (.ref b39), .val (.int (1 : Int32))] [(.int (f7_0 (((Ht0 &&& (4503599627370495 : Int64)) &&& Hm2) ||| ((Hs0 &&& (4503599627370495 : Int64)) &&& (Hm2 ^^^ (-1 : Int64)))) (((Ht1 &&& (4503599627370495 : Int64)) &&& Hm2) ||| ((Hs1 &&& (4503599627370495 : Int64)) &&& (Hm2 ^^^ (-1 : Int64)))) (((Ht2 &&& (4503599627370495 : Int64)) &&& Hm2) ||| ((Hs2 &&& (4503599627370495 : Int64)) &&& (Hm2 ^^^ (-1 : Int64)))) (((Ht3 &&& (4503599627370495 : Int64)) &&& Hm2) ||| ((Hs3 &&& (4503599627370495 : Int64)) &&& (Hm2 ^^^ (-1 : Int64)))) ((Ht4 &&& Hm2) ||| (Hs4 &&& (Hm2 ^^^ (-1 : Int64)))) x0 x1 x2 x3 y8))])) t
        refine XS.ifNo X57.here hx rfl (hb hby at_424) rfl ((if0 _ _).trans (feq (own_main2 Ha Hb Hr.2.2 E56 G56)).1) ?_
        show Steps p.tables e below (T57.setTop (mkF m 427 #[.val (.long q0), .second, .val (.long q1), .second, .val (.long q2), .second, .val (.long q3), .second, .val (.long q4), .second, .val (.long q5), .second, .val (.ref b1), .val (.long mix), .second, .val (.ref b11), .val (.ref b27), .val (.ref b33), .val (.ref b39), .val (.ref b40), .val (.int ((((q5.toUInt64 >>> ((62 : Int32) &&& 0x3f).toInt64.toUInt64).toInt64) &&& (3 : Int64)).toInt32)), .val (.ref b39), .val (.int (1 : Int32))] [])) _
        refine XS.iconst X57.here hx rfl (hb hby at_427) ?_
        show Steps p.tables e below (T57.setTop (mkF m 428 #[.val (.long q0), .second, .val (.long q1), .second, .val (.long q2), .second, .val (.long q3), .second, .val (.long q4), .second, .val (.long q5), .second, .val (.ref b1), .val (.long mix), .second, .val (.ref b11), .val (.ref b27), .val (.ref b33), .val (.ref b39), .val (.ref b40), .val (.int ((((q5.toUInt64 >>> ((62 : Int32) &&& 0x3f).toInt64.toUInt64).toInt64) &&& (3 : Int64)).toInt32)), .val (.ref b39), .val (.int (1 : Int32))] [(.int (1 : Int32))])) _
        refine XS.goto X57.here hx rfl (pc0 := 428) (pc' := 432) rfl (hb hby at_428) (by decide) (by decide) ?_
        show Steps p.tables e below (T57.setTop (mkF m 432 #[.val (.long q0), .second, .val (.long q1), .second, .val (.long q2), .second, .val (.long q3), .second, .val (.long q4), .second, .val (.long q5), .second, .val (.ref b1), .val (.long mix), .second, .val (.ref b11), .val (.ref b27), .val (.ref b33), .val (.ref b39), .val (.ref b40), .val (.int ((((q5.toUInt64 >>> ((62 : Int32) &&& 0x3f).toInt64.toUInt64).toInt64) &&& (3 : Int64)).toInt32)), .val (.ref b39), .val (.int (1 : Int32))] [(.int (1 : Int32))])) _
        exact k
      exact own_retN X57 hx hlk hret (by simp) (hb hby at_432) (by decide) (by decide) N57 ⟨rfl, trivial⟩
set_option maxRecDepth 65536 in
set_option maxHeartbeats 40000000 in
theorem comes_1 {Post : Tables → Env → Array Value → State → Outcome → State → Prop} (hpost : ∀ tb e args s v u, (limb_1_1.after args s (.returned v) u = true ∧ limb_1_2.after args s (.returned v) u = true ∧ True) → FrameEnd s (.returned v) u (Jvm.fieldLocs frame_1_writes args s ++ Jvm.arrayLocs frame_1_arrays args s ++ Jvm.staticLocs frame_1_statics s) 24 128 → Post tb e args s (.returned v) u) :
    ArmFor flags0 classFile x code maxLocals ret World_1 tables_1 room_1 Calls_1 rest_1 Pre_1 Post := by
  intro l hfl _ _ p e ha hc hk s m args below hf hA hF happ hP
  obtain ⟨hcalls, hrest, hpre⟩ := hP
  obtain ⟨-, -, -, hnamed, -, -, -, hat⟩ := (Spec.applies_iff hf).mp happ
  obtain ⟨hg, hn⟩ := and_e (Cond.before_iff.mp (show (Jvm.Cond.and given_1 narrow_1).before args s = true from hpre))
  obtain ⟨h1, g0⟩ := and_e hg
  obtain ⟨k0, g1⟩ := and_e g0
  obtain ⟨k1, g2⟩ := and_e g1
  obtain ⟨k2, g3⟩ := and_e g2
  obtain ⟨k3, g4⟩ := and_e g3
  obtain ⟨k4, g5⟩ := and_e g4
  have k5 := g5
  obtain ⟨w0, w1, w2, w3, w4, w5, rfl⟩ : ∃ w0 w1 w2 w3 w4 w5 : Value, args = #[w0, w1, w2, w3, w4, w5] := by
    have hs : args.size = 6 := by simpa [Cond.value, given_1] using h1
    obtain ⟨L⟩ := args
    match L, hs with
    | [w0, w1, w2, w3, w4, w5], _ => exact ⟨w0, w1, w2, w3, w4, w5, rfl⟩
  have hw := fun d (hd : d ∈ tables_1) => atoms_spec (ws := Jvm.Cond.code x code maxLocals ret :: tables_1) hat d (List.mem_cons_of_mem _ hd)
  obtain ⟨i0, e0⟩ := isL_v k0
  obtain rfl : w0 = (.long i0) := Option.some.inj e0
  obtain ⟨i1, e1⟩ := isL_v k1
  obtain rfl : w1 = (.long i1) := Option.some.inj e1
  obtain ⟨i2, e2⟩ := isL_v k2
  obtain rfl : w2 = (.long i2) := Option.some.inj e2
  obtain ⟨i3, e3⟩ := isL_v k3
  obtain rfl : w3 = (.long i3) := Option.some.inj e3
  obtain ⟨i4, e4⟩ := isL_v k4
  obtain rfl : w4 = (.long i4) := Option.some.inj e4
  obtain ⟨i5, e5⟩ := isL_v k5
  obtain rfl : w5 = (.long i5) := Option.some.inj e5
  obtain ⟨n, o, h1, h2, h3, v, L, rfl, ⟨N, hv⟩, hq⟩ := rm0 l s _ hw i0 i1 i2 i3 i4 i5 s.heap s.heap.size (Nat.le_refl _) p e ha hc hk s m _ below hf ((Spec.applies_iff_loose hf).mp happ).1 ⟨rfl, State.Warmed39.refl s, rfl⟩ trivial
  obtain rfl : v = some (.int 1) := hv.1
  refine ⟨n, _, h1, h2, h3, hpost _ _ _ _ _ _ ⟨Cond.after_iff.mpr rfl, Cond.after_iff.mpr (eq_i res_at (Term.int_eval (1)) rfl), trivial⟩ ⟨hq.1, hq.2.1, (hq.2.2.sift fun y hy => Or.inr (N y hy)).mono (by decide) (by decide)⟩⟩
theorem main_1_1 : Claimed_1_1 := comes_1 fun _ _ _ _ _ _ h hF => ⟨h.1, hF⟩
theorem main_1_2 : Claimed_1_2 := comes_1 fun _ _ _ _ _ _ h hF => ⟨h.2.1, hF⟩
end Jvm.Pilot.@@N@@
namespace Jvm.Pilot.@@N@@
open Jvm Jvm.ClassFile Sem Op Lib Jvm.Free Jvm.Stand Jvm.Pilot.@@N@@.Jvm.D
/-! MADE BY PROGRAM (witnessworld.py) out of the Statement's table words and the real class files: 11 classes; the members and pool entries that the words name. The judged class is class 1, her method 1. -/
namespace start1
open Jvm.ClassFile
def u (s : String) : CpInfo := .utf8 (stringToUtf16 s)
/-- a pool by its gaps: so many unusable entries, then the entry; so many at the end -/
def gap : Nat → List CpInfo → List CpInfo
  | 0, r => r
  | n + 1, r => .unusable :: gap n r
def poolList (es : List (Nat × CpInfo)) (last : Nat) : List CpInfo := es.foldr (fun e r => gap e.1 (e.2 :: r)) (gap last [])
def pool (es : List (Nat × CpInfo)) (last : Nat) : Array CpInfo := ⟨poolList es last⟩
def fileOf (pool : Array CpInfo) (this : Nat) (attrs : Array Attribute := #[]) (ms : Array MethodInfo := #[]) (fl : Nat := 33) (sup : Nat := 0) (ifs : Array Nat := #[]) (fds : Array FieldInfo := #[]) : ClassFile where
  minorVersion := 0
  majorVersion := 65
  constantPool := pool
  accessFlags := fl
  thisClass := this
  superClass := sup
  interfaces := ifs
  fields := fds
  methods := ms
  attributes := attrs
def plain (name : String) (sup : Option ClassId) : Class where
  name := name
  kind := .ordinary
  loader := none
  accessFlags := 33
  super := sup
  interfaces := #[]
  cf := none
  fields := #[]
  methods := #[]
  instanceTypes := #[]
  staticTypes := #[]
  resolved := #[]
  callSites := []
  init := .initialized
  statics := none
  mirror := none

def pool0 : Array CpInfo := pool [(5, u "<init>"), (0, u "()V"), (1, .class_ 10), (1, u "java/lang/Object")] 113

def k0m0 : Method := { name := "<init>", desc := "()V", sig := { parameters := [], returnType := none }, accessFlags := 1, code := none }
/-- java/lang/Object -/
def k0 : Class := { plain "java/lang/Object" none with
  accessFlags := 33
  interfaces := #[]
  cf := some (fileOf pool0 8 #[] #[{ accessFlags := 1, nameIndex := 5, descriptorIndex := 6, attributes := #[] }] 33 0 #[] #[])
  fields := #[]
  methods := #[k0m0]
  instanceTypes := #[]
  staticTypes := #[]
  resolved := Array.replicate 124 none
  statics := none }

def pool1 : Array CpInfo := pool [(2, .class_ 4), (1, u "java/lang/Object"), (0, u "<init>"), (0, u "()V"), (0, .long 4503599627370495), (1, .long 281474976710655), (1, .methodref 12 13), (0, .class_ 14), (0, .nameAndType 15 16), (0, u "com/example/linkwell/linkwell/cards/P256FieldSubPinLaw"), (0, u "lessThanP"), (0, u "([J)Z"), (0, .long 18446603336221196287), (1, .long 3), (1, .methodref 12 22), (0, .nameAndType 23 24), (0, u "limb"), (0, u "(JJJJI)J"), (0, .long 17592186044415), (1, .long 68719476736), (1, .long 281474976645120), (1, .methodref 32 33), (0, .class_ 34), (0, .nameAndType 35 36), (0, u "com/example/linkwell/linkwell/cards/P256Field"), (0, u "sub"), (0, u "([J[J[J)V"), (0, .methodref 12 38), (0, .nameAndType 39 16), (0, u "inRange"), (0, .methodref 32 41), (0, .nameAndType 42 36), (0, u "add"), (0, .methodref 32 44), (0, .nameAndType 45 46), (0, u "equal"), (0, u "([J[J)Z"), (2, u "law"), (0, u "(JJJJJJ)Z")] 5

def k1m0 : Method := { name := "<init>", desc := "()V", sig := { parameters := [], returnType := none }, accessFlags := 2, code := none }
def k1c1 : Code := { maxStack := 15, maxLocals := 23, code := code, exceptionTable := #[], attributes := #[] }
def k1m1 : Method := { name := "law", desc := "(JJJJJJ)Z", sig := { parameters := [.long, .long, .long, .long, .long, .long], returnType := some .boolean }, accessFlags := 9, code := some k1c1 }
def k1c2 : Code := { maxStack := 4, maxLocals := 9, code := method_3_code, exceptionTable := #[], attributes := #[] }
def k1m2 : Method := { name := "limb", desc := "(JJJJI)J", sig := { parameters := [.long, .long, .long, .long, .int], returnType := some .long }, accessFlags := 10, code := some k1c2 }
def k1c3 : Code := { maxStack := 4, maxLocals := 1, code := method_4_code, exceptionTable := #[], attributes := #[] }
def k1m3 : Method := { name := "inRange", desc := "([J)Z", sig := { parameters := [(.array .long)], returnType := some .boolean }, accessFlags := 10, code := some k1c3 }
def k1c4 : Code := { maxStack := 4, maxLocals := 1, code := method_5_code, exceptionTable := #[], attributes := #[] }
def k1m4 : Method := { name := "lessThanP", desc := "([J)Z", sig := { parameters := [(.array .long)], returnType := some .boolean }, accessFlags := 10, code := some k1c4 }
/-- com/example/linkwell/linkwell/cards/P256FieldSubPinLaw -/
def k1 : Class := { plain "com/example/linkwell/linkwell/cards/P256FieldSubPinLaw" (some 0) with
  accessFlags := 49
  interfaces := #[]
  cf := some (fileOf pool1 12 #[] #[{ accessFlags := 2, nameIndex := 5, descriptorIndex := 6, attributes := #[] }, { accessFlags := 9, nameIndex := 49, descriptorIndex := 50, attributes := #[] }, { accessFlags := 10, nameIndex := 23, descriptorIndex := 24, attributes := #[] }, { accessFlags := 10, nameIndex := 39, descriptorIndex := 16, attributes := #[] }, { accessFlags := 10, nameIndex := 15, descriptorIndex := 16, attributes := #[] }] 49 2 #[] #[])
  fields := #[]
  methods := #[k1m0, k1m1, k1m2, k1m3, k1m4]
  instanceTypes := #[]
  staticTypes := #[]
  resolved := Array.replicate 56 none
  statics := none }

def pool2 : Array CpInfo := pool [(1, .class_ 2), (0, u "com/example/linkwell/linkwell/cards/P256Field"), (1, .class_ 6), (1, u "java/lang/Object"), (0, u "<init>"), (0, u "()V"), (6, u "R_SQUARED"), (0, u "[J"), (3, u "([J[J[J)V"), (9, u "Ljava/math/BigInteger;"), (23, .long 4503599627370495), (7, .methodref 1 63), (0, .nameAndType 64 65), (0, u "reduceOnce"), (0, u "([JJJJJJ)V"), (0, .long 17592186044415), (1, .long 68719476736), (1, .long 281474976645120), (48, .long 18446744073709551615), (8, u "P"), (2, u "ONE"), (8, u "LIMBS"), (0, u "I"), (2, u "MASK"), (0, u "J"), (0, u "P0"), (0, u "P1"), (0, u "P3"), (0, u "P4"), (9, u "equal"), (0, u "([J[J)Z"), (0, u "add"), (0, u "sub")] 4

def k2m0 : Method := { name := "<init>", desc := "()V", sig := { parameters := [], returnType := none }, accessFlags := 2, code := none }
def k2c1 : Code := { maxStack := 6, maxLocals := 2, code := prog_11_method_9_code, exceptionTable := #[], attributes := #[] }
def k2m1 : Method := { name := "equal", desc := "([J[J)Z", sig := { parameters := [(.array .long), (.array .long)], returnType := some .boolean }, accessFlags := 8, code := some k2c1 }
def k2c2 : Code := { maxStack := 11, maxLocals := 13, code := prog_11_method_10_code, exceptionTable := #[], attributes := #[] }
def k2m2 : Method := { name := "add", desc := "([J[J[J)V", sig := { parameters := [(.array .long), (.array .long), (.array .long)], returnType := none }, accessFlags := 8, code := some k2c2 }
def k2c3 : Code := { maxStack := 6, maxLocals := 15, code := prog_11_method_11_code, exceptionTable := #[], attributes := #[] }
def k2m3 : Method := { name := "sub", desc := "([J[J[J)V", sig := { parameters := [(.array .long), (.array .long), (.array .long)], returnType := none }, accessFlags := 8, code := some k2c3 }
def k2c4 : Code := { maxStack := 10, maxLocals := 23, code := prog_11_method_24_code, exceptionTable := #[], attributes := #[] }
def k2m4 : Method := { name := "reduceOnce", desc := "([JJJJJJ)V", sig := { parameters := [(.array .long), .long, .long, .long, .long, .long], returnType := none }, accessFlags := 10, code := some k2c4 }
/-- com/example/linkwell/linkwell/cards/P256Field -/
def k2 : Class := { plain "com/example/linkwell/linkwell/cards/P256Field" (some 0) with
  accessFlags := 48
  interfaces := #[]
  cf := some (fileOf pool2 1 #[] #[{ accessFlags := 2, nameIndex := 7, descriptorIndex := 8, attributes := #[] }, { accessFlags := 8, nameIndex := 159, descriptorIndex := 160, attributes := #[] }, { accessFlags := 8, nameIndex := 161, descriptorIndex := 20, attributes := #[] }, { accessFlags := 8, nameIndex := 162, descriptorIndex := 20, attributes := #[] }, { accessFlags := 10, nameIndex := 64, descriptorIndex := 65, attributes := #[] }] 48 4 #[] #[{ accessFlags := 24, nameIndex := 140, descriptorIndex := 141, attributes := #[] }, { accessFlags := 24, nameIndex := 128, descriptorIndex := 30, attributes := #[] }, { accessFlags := 24, nameIndex := 144, descriptorIndex := 145, attributes := #[] }, { accessFlags := 26, nameIndex := 146, descriptorIndex := 145, attributes := #[] }, { accessFlags := 26, nameIndex := 147, descriptorIndex := 145, attributes := #[] }, { accessFlags := 26, nameIndex := 148, descriptorIndex := 145, attributes := #[] }, { accessFlags := 26, nameIndex := 149, descriptorIndex := 145, attributes := #[] }, { accessFlags := 26, nameIndex := 15, descriptorIndex := 16, attributes := #[] }, { accessFlags := 24, nameIndex := 131, descriptorIndex := 16, attributes := #[] }])
  fields := #[{ name := "LIMBS", type := .int, accessFlags := 24, slot := 0, constantValue := 0 }, { name := "P", type := (.object "java/math/BigInteger"), accessFlags := 24, slot := 1, constantValue := 0 }, { name := "MASK", type := .long, accessFlags := 24, slot := 2, constantValue := 0 }, { name := "P0", type := .long, accessFlags := 26, slot := 3, constantValue := 0 }, { name := "P1", type := .long, accessFlags := 26, slot := 4, constantValue := 0 }, { name := "P3", type := .long, accessFlags := 26, slot := 5, constantValue := 0 }, { name := "P4", type := .long, accessFlags := 26, slot := 6, constantValue := 0 }, { name := "R_SQUARED", type := (.array .long), accessFlags := 26, slot := 7, constantValue := 0 }, { name := "ONE", type := (.array .long), accessFlags := 24, slot := 8, constantValue := 0 }]
  methods := #[k2m0, k2m1, k2m2, k2m3, k2m4]
  instanceTypes := #[]
  staticTypes := #[.int, (.object "java/math/BigInteger"), .long, .long, .long, .long, .long, (.array .long), (.array .long)]
  resolved := Array.replicate 167 none
  statics := none }

def pool3 : Array CpInfo := pool [(1, u "java/lang/Cloneable"), (0, .class_ 1), (0, u "java/lang/Object"), (0, .class_ 3)] 3

/-- java/lang/Cloneable -/
def k3 : Class := { plain "java/lang/Cloneable" (some 0) with
  accessFlags := 1537
  interfaces := #[]
  cf := some (fileOf pool3 2 #[] #[] 1537 4 #[] #[])
  fields := #[]
  methods := #[]
  instanceTypes := #[]
  staticTypes := #[]
  resolved := Array.replicate 8 none
  statics := none }

def pool4 : Array CpInfo := pool [(1, u "java/io/Serializable"), (0, .class_ 1), (0, u "java/lang/Object"), (0, .class_ 3)] 3

/-- java/io/Serializable -/
def k4 : Class := { plain "java/io/Serializable" (some 0) with
  accessFlags := 1537
  interfaces := #[]
  cf := some (fileOf pool4 2 #[] #[] 1537 4 #[] #[])
  fields := #[]
  methods := #[]
  instanceTypes := #[]
  staticTypes := #[]
  resolved := Array.replicate 8 none
  statics := none }

/-- the primitive byte -/
def k5 : Class := { plain "byte" none with kind := .primitive 'B', accessFlags := 0x411 }
/-- [B -/
def k6 : Class := { plain "[B" (some 0) with kind := .array 5 .byte, interfaces := #[3, 4], accessFlags := 1041 }

/-- the primitive int -/
def k7 : Class := { plain "int" none with kind := .primitive 'I', accessFlags := 0x411 }
/-- [I -/
def k8 : Class := { plain "[I" (some 0) with kind := .array 7 .int, interfaces := #[3, 4], accessFlags := 1041 }

/-- the primitive long -/
def k9 : Class := { plain "long" none with kind := .primitive 'J', accessFlags := 0x411 }
/-- [J -/
def k10 : Class := { plain "[J" (some 0) with kind := .array 9 .long, interfaces := #[3, 4], accessFlags := 1041 }

def heap : Heap := #[]
def classes : Array Class := #[k0, k1, k2, k3, k4, k5, k6, k7, k8, k9, k10]
def interned : List (Array UInt16 × Addr) := []
def slotsUsed : Nat := 0
def theMethod : MethodId := ⟨1, 1⟩
def args0 : Array Value := #[.long 5, .long 300, .long 7, .long 1, .long 2, .long 3]
def aboutOver (below : List Frame) : State where
  vm := { classes := classes, interned := interned.toArray }
  heap := heap
  slotsUsed := slotsUsed
  threads := #[{ frames := .invoking theMethod args0 :: below }]
def below0 : List Frame := [.native { method := ⟨0, 0⟩, args := #[] }]
def about1 : State := aboutOver below0
def p0 : Program := .bare "" "" ""
def e0 : Env := launch0.env 0 0 0
theorem w_frames : about1.frames = Frame.invoking theMethod args0 :: below0 := rfl
set_option maxRecDepth 65536 in
theorem w_args : argsFit about1.vm theMethod args0 = true := by decide +kernel
set_option maxRecDepth 65536 in
theorem w_heap : heapFits about1 = true := by decide +kernel
set_option maxRecDepth 65536 in
theorem w_runnable : about1.curStatus? = some .runnable := by decide +kernel
set_option maxRecDepth 65536 in
theorem w_alone : about1.alone = true := by decide +kernel
set_option maxRecDepth 65536 in
theorem w_named : about1.methodNamed? x = some theMethod := by decide +kernel
set_option maxRecDepth 65536 in
theorem w_hears : about1.hears theMethod below0 = true := by decide +kernel
set_option maxRecDepth 65536 in
theorem w_ripe : about1.ripe theMethod args0 below0 = true := by decide +kernel
theorem w_running : about1.status = .running := rfl
set_option maxRecDepth 65536 in
theorem w_room : about1.hasRoom e0.platform room_1 = true :=
  launch0.hasRoom_least _ room_1 (by decide +kernel) (by decide +kernel) (by decide +kernel) (by decide +kernel) (by decide +kernel) (by decide +kernel)
theorem allAtoms_all (ts : List Jvm.Cond) (a : Array Jvm.Value) (st : Jvm.State) : (allAtoms ts).before a st = ts.all (fun c => c.before a st) := by
  induction ts with
  | nil => rfl
  | cons c t ih =>
    show (Jvm.Cond.and c (allAtoms t)).before a st = _
    rw [Jvm.Cond.before_and, ih, List.all_cons]
def words1 : List Jvm.Cond := Jvm.Cond.code x code maxLocals ret :: tables_1
/-- a 'code' word, met by the world's own term for the bytes: nothing is compared byte by byte -/
theorem code_word {y : MethodName} {bytes : ByteArray} {mx : Nat} {rt : Option FieldType} {a : Array Value} {s : State} {m : MethodId} {meth : Method} {c : Code} (h1 : s.methodNamed? y = some m) (h2 : s.vm.method? m = some meth) (h3 : meth.code = some c) (h4 : c.code = bytes)
    (h5 : (c.maxLocals == mx && c.exceptionTable.isEmpty && decide (c.maxStack ≤ mostOperands) && decide (meth.sig.returnType = rt) && !meth.locks && decide (parseMethodDescriptor y.desc = some meth.sig)) = true) : (Jvm.Cond.code y bytes mx rt).before a s = true := by
  simp only [Bool.and_eq_true, beq_iff_eq, Bool.not_eq_true', decide_eq_true_eq] at h5
  obtain ⟨⟨⟨⟨⟨g1, g2⟩, g3⟩, g4⟩, g5⟩, g6⟩ := h5
  simp [Cond.before, Cond.holds, Cond.value, h1, h2, h3, h4, g1, g2, g3, g4, g5, g6]
def isCode : Jvm.Cond → Bool
  | .code _ _ _ _ => true
  | _ => false
theorem all_split {L : List Jvm.Cond} {P : Jvm.Cond → Bool} (h1 : L.all (fun c => isCode c || P c) = true) (h2 : ∀ c ∈ L.filter isCode, P c = true) : L.all P = true := by
  refine List.all_eq_true.mpr fun c hc => ?_
  have h := List.all_eq_true.mp h1 c hc
  rcases Bool.eq_false_or_eq_true (isCode c) with hi | hi
  · exact h2 c (List.mem_filter.mpr ⟨hc, hi⟩)
  · simpa [hi] using h
set_option maxRecDepth 65536 in
theorem w_c0 : (Jvm.Cond.code x code maxLocals ret).before args0 about1 = true := code_word (m := ⟨1, 1⟩) (meth := k1m1) (c := k1c1) (by decide +kernel) rfl rfl rfl (by decide +kernel)
set_option maxRecDepth 65536 in
theorem w_c1 : (Jvm.Cond.code ({ cls := "com/example/linkwell/linkwell/cards/P256FieldSubPinLaw", name := "lessThanP", desc := "([J)Z" } : Jvm.MethodName) method_5_code (1 : Nat) (Option.some Jvm.ClassFile.FieldType.boolean)).before args0 about1 = true := code_word (m := ⟨1, 4⟩) (meth := k1m4) (c := k1c4) (by decide +kernel) rfl rfl rfl (by decide +kernel)
set_option maxRecDepth 65536 in
theorem w_c2 : (Jvm.Cond.code ({ cls := "com/example/linkwell/linkwell/cards/P256FieldSubPinLaw", name := "limb", desc := "(JJJJI)J" } : Jvm.MethodName) method_3_code (9 : Nat) (Option.some Jvm.ClassFile.FieldType.long)).before args0 about1 = true := code_word (m := ⟨1, 2⟩) (meth := k1m2) (c := k1c2) (by decide +kernel) rfl rfl rfl (by decide +kernel)
set_option maxRecDepth 65536 in
theorem w_c3 : (Jvm.Cond.code ({ cls := "com/example/linkwell/linkwell/cards/P256Field", name := "sub", desc := "([J[J[J)V" } : Jvm.MethodName) prog_11_method_11_code (15 : Nat) (Option.none : Option Jvm.ClassFile.FieldType)).before args0 about1 = true := code_word (m := ⟨2, 3⟩) (meth := k2m3) (c := k2c3) (by decide +kernel) rfl rfl rfl (by decide +kernel)
set_option maxRecDepth 65536 in
theorem w_c4 : (Jvm.Cond.code ({ cls := "com/example/linkwell/linkwell/cards/P256FieldSubPinLaw", name := "inRange", desc := "([J)Z" } : Jvm.MethodName) method_4_code (1 : Nat) (Option.some Jvm.ClassFile.FieldType.boolean)).before args0 about1 = true := code_word (m := ⟨1, 3⟩) (meth := k1m3) (c := k1c3) (by decide +kernel) rfl rfl rfl (by decide +kernel)
set_option maxRecDepth 65536 in
theorem w_c5 : (Jvm.Cond.code ({ cls := "com/example/linkwell/linkwell/cards/P256Field", name := "add", desc := "([J[J[J)V" } : Jvm.MethodName) prog_11_method_10_code (13 : Nat) (Option.none : Option Jvm.ClassFile.FieldType)).before args0 about1 = true := code_word (m := ⟨2, 2⟩) (meth := k2m2) (c := k2c2) (by decide +kernel) rfl rfl rfl (by decide +kernel)
set_option maxRecDepth 65536 in
theorem w_c6 : (Jvm.Cond.code ({ cls := "com/example/linkwell/linkwell/cards/P256Field", name := "reduceOnce", desc := "([JJJJJJ)V" } : Jvm.MethodName) prog_11_method_24_code (23 : Nat) (Option.none : Option Jvm.ClassFile.FieldType)).before args0 about1 = true := code_word (m := ⟨2, 4⟩) (meth := k2m4) (c := k2c4) (by decide +kernel) rfl rfl rfl (by decide +kernel)
set_option maxRecDepth 65536 in
theorem w_c7 : (Jvm.Cond.code ({ cls := "com/example/linkwell/linkwell/cards/P256Field", name := "equal", desc := "([J[J)Z" } : Jvm.MethodName) prog_11_method_9_code (2 : Nat) (Option.some Jvm.ClassFile.FieldType.boolean)).before args0 about1 = true := code_word (m := ⟨2, 1⟩) (meth := k2m1) (c := k2c1) (by decide +kernel) rfl rfl rfl (by decide +kernel)
def codes1 : List Jvm.Cond := [Jvm.Cond.code x code maxLocals ret, Jvm.Cond.code ({ cls := "com/example/linkwell/linkwell/cards/P256FieldSubPinLaw", name := "lessThanP", desc := "([J)Z" } : Jvm.MethodName) method_5_code (1 : Nat) (Option.some Jvm.ClassFile.FieldType.boolean), Jvm.Cond.code ({ cls := "com/example/linkwell/linkwell/cards/P256FieldSubPinLaw", name := "limb", desc := "(JJJJI)J" } : Jvm.MethodName) method_3_code (9 : Nat) (Option.some Jvm.ClassFile.FieldType.long), Jvm.Cond.code ({ cls := "com/example/linkwell/linkwell/cards/P256Field", name := "sub", desc := "([J[J[J)V" } : Jvm.MethodName) prog_11_method_11_code (15 : Nat) (Option.none : Option Jvm.ClassFile.FieldType), Jvm.Cond.code ({ cls := "com/example/linkwell/linkwell/cards/P256FieldSubPinLaw", name := "inRange", desc := "([J)Z" } : Jvm.MethodName) method_4_code (1 : Nat) (Option.some Jvm.ClassFile.FieldType.boolean), Jvm.Cond.code ({ cls := "com/example/linkwell/linkwell/cards/P256Field", name := "add", desc := "([J[J[J)V" } : Jvm.MethodName) prog_11_method_10_code (13 : Nat) (Option.none : Option Jvm.ClassFile.FieldType), Jvm.Cond.code ({ cls := "com/example/linkwell/linkwell/cards/P256Field", name := "reduceOnce", desc := "([JJJJJJ)V" } : Jvm.MethodName) prog_11_method_24_code (23 : Nat) (Option.none : Option Jvm.ClassFile.FieldType), Jvm.Cond.code ({ cls := "com/example/linkwell/linkwell/cards/P256Field", name := "equal", desc := "([J[J)Z" } : Jvm.MethodName) prog_11_method_9_code (2 : Nat) (Option.some Jvm.ClassFile.FieldType.boolean)]
set_option maxRecDepth 65536 in
theorem codes_eq : words1.filter isCode = codes1 := rfl
theorem w_codes : ∀ c ∈ words1.filter isCode, c.before args0 about1 = true := by
  rw [codes_eq]
  intro c hc
  simp only [codes1, List.mem_cons, List.not_mem_nil, or_false] at hc
  rcases hc with rfl | rfl | rfl | rfl | rfl | rfl | rfl | rfl
  · exact w_c0
  · exact w_c1
  · exact w_c2
  · exact w_c3
  · exact w_c4
  · exact w_c5
  · exact w_c6
  · exact w_c7
set_option maxRecDepth 65536 in
theorem w_t1 : (words1.take 24).all (fun c => isCode c || c.before args0 about1) = true := by decide +kernel
set_option maxRecDepth 65536 in
theorem w_t2 : (words1.drop 24).all (fun c => isCode c || c.before args0 about1) = true := by decide +kernel
theorem w_tables : (allAtoms (Jvm.Cond.code x code maxLocals ret :: tables_1)).before args0 about1 = true := by
  rw [allAtoms_all]
  show words1.all (fun c => c.before args0 about1) = true
  refine all_split ?_ w_codes
  rw [← List.take_append_drop 24 words1, List.all_append, w_t1, w_t2]
  rfl
set_option maxRecDepth 65536 in
theorem w_case : (Jvm.Cond.and given_1 narrow_1).before args0 about1 = true := by decide +kernel
theorem w_applies : (headSpec (Jvm.Cond.code x code maxLocals ret :: tables_1) room_1).applies x e0.platform about1 = true :=
  (Spec.applies_iff w_frames).mpr ⟨w_running, w_runnable, w_alone, w_named, w_hears, w_ripe, w_room, w_tables⟩
theorem atStart : AtStart classFile x code maxLocals ret World_1 tables_1 room_1 Calls_1 rest_1 Pre_1 launch0 p0 e0 about1 theMethod args0 below0 :=
  ⟨lists_1, trivial, launch0.admits_env _ _ _, launch0.least_env, fairChoices_fair.cas, fairChoices_fair.clock, w_frames, w_args, w_heap, w_applies, trivial, trivial, w_case⟩
end start1
theorem witness_1 : WitnessClaimed_1 := ⟨start1.p0, start1.e0, start1.about1, start1.theMethod, start1.args0, start1.below0, start1.atStart⟩
end Jvm.Pilot.@@N@@
