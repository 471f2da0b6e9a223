import JvmDerived
import JvmDerived.Pilot.@@N@@Statement
import JvmDerived.Pilot.@@N@@Code
set_option linter.unusedVariables false
set_option linter.unusedSimpArgs false
namespace Jvm.Pilot.@@N@@
open Jvm Jvm.ClassFile Sem Op Lib Jvm.Free Jvm.Stand Jvm.LawKit Jvm.RoadKit Bundle Jvm.Pilot.@@N@@.Jvm.D
/-! the walk's own small kit: a run that ends in a return (own_Ends), a method's contract (own_Con), one step (own_go), the returns, the calls -/
section Own
variable {p : Program} {l : Launch} {e : Env} {R : Room} {s : State} {m : MethodId} {args : Array Value} {below : List Frame} {meth : Method} {c : Code} {T : State} {locs : List Loc} {cells slots : Nat} {Z : State} {a0 : Array Value} {h : Heap} {n0 kc ks : Nat}
/-- from the frame g at T the run comes to a return; what was written lies at or above n0; Q says what is returned and what the heap is then -/
def own_Ends (p : Program) (e : Env) (below : List Frame) (s : State) (n0 kc ks : Nat) (T : State) (g : JFrame) (Q : Option Value → Heap → Prop) : Prop :=
  ∃ s₂ o, Steps p.tables e below (T.setTop g) s₂ ∧ s₂.status = .running ∧ Ended s₂ below o ∧ ∃ v L, o = .returned v ∧ (Fr n0 L ∧ Q v s₂.heap) ∧ FrameEnd s o s₂ L kc ks
theorem own_go {T' : State} {g g' : JFrame} {Q : Option Value → Heap → Prop} (k : ∀ t, Steps p.tables e below (T'.setTop g') t → Steps p.tables e below (T.setTop g) t) (q : own_Ends p e below s n0 kc ks T' g' Q) : own_Ends p e below s n0 kc ks T g Q := by
  obtain ⟨s₂, o, h1, r⟩ := q
  exact ⟨s₂, o, k _ h1, r⟩
theorem own_mono {g : JFrame} {Q Q' : Option Value → Heap → Prop} (q : own_Ends p e below s n0 kc ks T g Q) (i : ∀ v h, Q v h → Q' v h) : own_Ends p e below s n0 kc ks T g Q' := by
  obtain ⟨s₂, o, h1, h2, h3, v, L, h4, ⟨h5, h6⟩, h7⟩ := q
  exact ⟨s₂, o, h1, h2, h3, v, L, h4, ⟨h5, i _ _ h6⟩, h7⟩
theorem own_retW (X : Stand p l e R s m args below meth c T locs cells slots) (hx : p.tables.exec = Jvm.exec) (hlk : meth.locks = false) {pc : Nat} {Ls : Array Slot} {w : Value} {t : FieldType} {i : Instr} {rest : List Value} (hret : meth.sig.returnType = some t) (hn : narrow t w = w)
    (hi : (i = .ireturn ∧ (t = .int ∨ t = .boolean ∨ t = .byte ∨ t = .char ∨ t = .short) ∧ ∃ z, w = .int z) ∨ (i = .lreturn ∧ t = .long ∧ ∃ z, w = .long z) ∨ (i = .dreturn ∧ t = .double ∧ ∃ z, w = .double z) ∨ (i = .freturn ∧ t = .float ∧ ∃ z, w = .float z) ∨ (i = .areturn ∧ t.isReference = true ∧ w.isRef = true))
    (hd : decode c.code pc = .ok (i, 1)) {Q : Option Value → Heap → Prop} (hc : cells ≤ kc) (hs : slots ≤ ks) (N : Fr n0 locs) (q : Q (some w) T.heap) : own_Ends p e below s n0 kc ks T (mkF m pc Ls (w :: rest)) Q := by
  obtain ⟨fs, hr, hrun, hended, hW, hsame⟩ := X.leave (v := some w) (fun h => by rw [hret] at h; cases h) hlk
  exact ⟨_, _, retOut X hx hret hn hi hd hr, hrun, hended, _, _, rfl, ⟨N, q⟩, ⟨_, rfl⟩, hW, hsame.mono hc hs⟩
theorem own_retI (X : Stand p l e R s m args below meth c T locs cells slots) (hx : p.tables.exec = Jvm.exec) (hlk : meth.locks = false) {pc : Nat} {Ls : Array Slot} {z : Int32} {rest : List Value} (hret : meth.sig.returnType = some .int)
    (hd : decode c.code pc = .ok (.ireturn, 1)) {Q : Option Value → Heap → Prop} (hc : cells ≤ kc) (hs : slots ≤ ks) (N : Fr n0 locs) (q : Q (some (.int z)) T.heap) : own_Ends p e below s n0 kc ks T (mkF m pc Ls (.int z :: rest)) Q :=
  own_retW X hx hlk hret rfl (Or.inl ⟨rfl, Or.inl rfl, z, rfl⟩) hd hc hs N q
theorem own_retJ (X : Stand p l e R s m args below meth c T locs cells slots) (hx : p.tables.exec = Jvm.exec) (hlk : meth.locks = false) {pc : Nat} {Ls : Array Slot} {z : Int64} {rest : List Value} (hret : meth.sig.returnType = some .long)
    (hd : decode c.code pc = .ok (.lreturn, 1)) {Q : Option Value → Heap → Prop} (hc : cells ≤ kc) (hs : slots ≤ ks) (N : Fr n0 locs) (q : Q (some (.long z)) T.heap) : own_Ends p e below s n0 kc ks T (mkF m pc Ls (.long z :: rest)) Q :=
  own_retW X hx hlk hret rfl (Or.inr (Or.inl ⟨rfl, rfl, z, rfl⟩)) hd hc hs N q
theorem own_retA (X : Stand p l e R s m args below meth c T locs cells slots) (hx : p.tables.exec = Jvm.exec) (hlk : meth.locks = false) {pc : Nat} {Ls : Array Slot} {a : Addr} {t : FieldType} {rest : List Value} (hret : meth.sig.returnType = some t) (ht : t.isReference = true) (hn : narrow t (.ref a) = .ref a)
    (hd : decode c.code pc = .ok (.areturn, 1)) {Q : Option Value → Heap → Prop} (hc : cells ≤ kc) (hs : slots ≤ ks) (N : Fr n0 locs) (q : Q (some (.ref a)) T.heap) : own_Ends p e below s n0 kc ks T (mkF m pc Ls (.ref a :: rest)) Q :=
  own_retW X hx hlk hret hn (Or.inr (Or.inr (Or.inr (Or.inr ⟨rfl, ht, rfl⟩)))) hd hc hs N q
theorem own_retN (X : Stand p l e R s m args below meth c T locs cells slots) (hx : p.tables.exec = Jvm.exec) (hlk : meth.locks = false) {pc : Nat} {Ls : Array Slot} {z : Int32} {t : FieldType} {rest : List Value} (hret : meth.sig.returnType = some t) (ht : t = .boolean ∨ t = .byte ∨ t = .char ∨ t = .short)
    (hd : decode c.code pc = .ok (.ireturn, 1)) {Q : Option Value → Heap → Prop} (hc : cells ≤ kc) (hs : slots ≤ ks) (N : Fr n0 locs) (q : Q (some (.int (nar t z))) T.heap) : own_Ends p e below s n0 kc ks T (mkF m pc Ls (.int z :: rest)) Q := by
  obtain ⟨fs, hr, hrun, hended, hW, hsame⟩ := X.leave (v := some (.int (nar t z))) (fun h => by rw [hret] at h; cases h) hlk
  exact ⟨_, _, retN X hx hret ht hd hr, hrun, hended, _, _, rfl, ⟨N, q⟩, ⟨_, rfl⟩, hW, hsame.mono hc hs⟩
theorem own_retV (X : Stand p l e R s m args below meth c T locs cells slots) (hx : p.tables.exec = Jvm.exec) (hlk : meth.locks = false) {pc : Nat} {Ls : Array Slot} (hret : meth.sig.returnType = none)
    (hd : decode c.code pc = .ok (.return_, 1)) {Q : Option Value → Heap → Prop} (hc : cells ≤ kc) (hs : slots ≤ ks) (N : Fr n0 locs) (q : Q none T.heap) : own_Ends p e below s n0 kc ks T (mkF m pc Ls []) Q := by
  obtain ⟨fs, hr, hrun, hended, hW, hsame⟩ := X.leave (v := none) (fun _ => rfl) hlk
  exact ⟨_, _, X.returnOut hx hret hd hr, hrun, hended, _, _, rfl, ⟨N, q⟩, ⟨_, rfl⟩, hW, hsame.mono hc hs⟩
/-- a method's contract: called with as' at the heap h it returns, and Q says what; nothing below n0 is written -/
def own_Con (ws : List Jvm.Cond) (l : Launch) (Z : State) (y : MethodName) (bytes : ByteArray) (maxL : Nat) (ret : Option FieldType) (rm : Room) (n0 : Nat) (as' : Array Value) (h : Heap) (Q : Option Value → Heap → Prop) : Prop :=
  MetFree l y (head1 (Jvm.Cond.code y bytes maxL ret :: ws) rm) (fun a U => a = as' ∧ Z.Warmed39 U.vm ∧ U.heap = h) (fun _ _ _ _ _ => True) (fun _ U o U' => ∃ v L, o = .returned v ∧ (Fr n0 L ∧ Q v U'.heap) ∧ FrameEnd U o U' L rm.cells rm.slots)
theorem own_body {ws : List Jvm.Cond} {y : MethodName} {bytes : ByteArray} {maxL : Nat} {ret : Option FieldType} {rm : Room} {as' : Array Value} {Q : Option Value → Heap → Prop} (hy : plainFor y = true) (fr : MethodId → JFrame) (hfr : ∀ m, entryFrame m as' maxL = fr m)
    (H : ∀ (p : Program) (e : Env) (s : State) (m : MethodId) (below : List Frame) (meth : Method) (c : Code) (s₁ : State), p.tables.exec = Jvm.exec → c.code = bytes → c.maxLocals = maxL → s.vm.findClass y.cls = some m.cls → meth.name = y.name → Z.Warmed39 s.vm → meth.sig.returnType = ret → meth.locks = false →
      Stand p l e rm s m as' below meth c s₁ [] 0 0 → s₁.heap = h → Fr n0 [] → own_Ends p e below s n0 rm.cells rm.slots s₁ (fr m) Q) : own_Con ws l Z y bytes maxL ret rm n0 as' h Q := by
  refine MetFree.of_bodySF hy hisR ?_
  intro p e s m args below meth c s₁ Bd hml0 hP hK
  obtain ⟨rfl, hZ, hh⟩ := hP
  have E := H p e s m below meth c s₁ Bd.exec Bd.bytes hml0 (findClass_of_methodNamed Bd.named) (name_of_methodNamed Bd.named Bd.method).1 hZ Bd.returns Bd.notSynchronized (Stand.of_body Bd) (by rw [← hh, Bd.state]; rfl) (Fr.nil n0)
  rw [← hfr m] at E
  exact E
/-- invokestatic by the callee's contract -/
theorem own_callS (X : Stand p l e R s m args below meth c T locs cells slots) (hx : p.tables.exec = Jvm.exec) (hZ : Z.Warmed39 s.vm) {own : String} {index : Nat} {y : MethodName} {bytes : ByteArray} {maxL : Nat} {ret : Option FieldType}
    (hown : s.vm.findClass own = some m.cls) (w1 : (Jvm.Cond.methodLink own index y).before a0 Z = true) (w2 : (Jvm.Cond.static y).before a0 Z = true) (w3 : (Jvm.Cond.initialized y.cls).before a0 Z = true) (w4 : (Jvm.Cond.code y bytes maxL ret).before a0 Z = true)
    (hy : y.cls ≠ "java/lang/invoke/MethodHandle" ∧ y.cls ≠ "java/lang/invoke/VarHandle") {argsL rest : List Value} {Q : Option Value → Heap → Prop} {rm : Room} (hM : own_Con [] l Z y bytes maxL ret rm n0 argsL.toArray h Q) {W : Nat} (hf : rm.frames + 1 ≤ R.frames) (hl : W + (maxL + 11) + rm.locals ≤ R.locals)
    {g : JFrame} (hg : g.method = m) (hsize : g.locals.size = c.maxLocals) {ps : List FieldType} {r : Option FieldType} (hpd : parseMethodDescriptor y.desc = some ⟨ps, r⟩) (hlen : argsL.length = ps.length) (hstack : g.stack = argsL.reverse ++ rest) (hW : 2 * g.monitorRoom + (rest.map fun v => v.category).sum ≤ W)
    (hd : decode c.code g.pc = .ok (.invokestatic index, 3)) (eT : T.heap = h) (hc : cells + rm.cells ≤ R.cells) (hs : slots + rm.slots ≤ R.slots) (N : Fr n0 locs) :
    ∃ v T' L', Stand p l e R s m args below meth c T' L' (cells + rm.cells) (slots + rm.slots) ∧ Fr n0 L' ∧ Q v T'.heap ∧ ∀ t, Steps p.tables e below (T'.setTop { g with pc := g.pc + 3, stack := v.toList ++ rest }) t → Steps p.tables e below (T.setTop g) t := by
  obtain ⟨v, _, ⟨T', L', k', n'⟩, -, X', ⟨Lc, ⟨hN, hQ⟩, l', y', z'⟩, st⟩ := Jvm.LawKit.callS X hx hown (mvT hZ w1) (mvT hZ w2) (mvT hZ w3) (mvT hZ w4) hy (backOf (Q := fun v h L => Fr n0 L ∧ Q v h) (W := W) hM hZ w4 w3 hf hl) hg hsize (lenOf hpd hlen) hstack hW hd (fun _ _ => ⟨rfl, eT, hc, hs⟩)
  dsimp only [Pt.U, Pt.locs, Pt.cells, Pt.slots] at X' l' y' z' st hQ
  subst l' y' z'
  exact ⟨v, T', _, X', Fr.app N hN, hQ, st⟩
/-- a constructor by its contract -/
theorem own_callI (X : Stand p l e R s m args below meth c T locs cells slots) (hx : p.tables.exec = Jvm.exec) (hZ : Z.Warmed39 s.vm) {own : String} {index : Nat} {y : MethodName} {bytes : ByteArray} {maxL : Nat}
    (hy1 : y.name = "<init>") (hown : s.vm.findClass own = some m.cls) (w1 : (Jvm.Cond.methodLink own index y).before a0 Z = true) (w2 : (Jvm.Cond.instanceMethod y).before a0 Z = true) (w3 : (Jvm.Cond.initialized y.cls).before a0 Z = true) (w4 : (Jvm.Cond.code y bytes maxL none).before a0 Z = true)
    (hy : y.cls ≠ "java/lang/invoke/MethodHandle" ∧ y.cls ≠ "java/lang/invoke/VarHandle") {a : Addr} {argsL rest : List Value} {Q : Option Value → Heap → Prop} {rm : Room} (hM : own_Con [] l Z y bytes maxL none rm n0 (.ref a :: argsL).toArray h Q) {W : Nat} (hf : rm.frames + 1 ≤ R.frames) (hl : W + (maxL + 11) + rm.locals ≤ R.locals)
    {g : JFrame} (hg : g.method = m) (hsize : g.locals.size = c.maxLocals) {ps : List FieldType} {r : Option FieldType} (hpd : parseMethodDescriptor y.desc = some ⟨ps, r⟩) (hlen : argsL.length = ps.length) (hstack : g.stack = argsL.reverse ++ .ref a :: rest) (hW : 2 * g.monitorRoom + (rest.map fun v => v.category).sum ≤ W)
    (hd : decode c.code g.pc = .ok (.invokespecial index, 3)) (eT : T.heap = h) (hc : cells + rm.cells ≤ R.cells) (hs : slots + rm.slots ≤ R.slots) (N : Fr n0 locs) :
    ∃ v T' L', Stand p l e R s m args below meth c T' L' (cells + rm.cells) (slots + rm.slots) ∧ Fr n0 L' ∧ Q v T'.heap ∧ ∀ t, Steps p.tables e below (T'.setTop { g with pc := g.pc + 3, stack := v.toList ++ rest }) t → Steps p.tables e below (T.setTop g) t := by
  obtain ⟨v, _, ⟨T', L', k', n'⟩, -, X', ⟨Lc, ⟨hN, hQ⟩, l', y', z'⟩, st⟩ := X.specialBack hx hy1 hown (mvT hZ w1) (mvT hZ w2) (mvT hZ w4) hy (backOf (Q := fun v h L => Fr n0 L ∧ Q v h) (W := W) hM hZ w4 w3 hf hl) hg hsize (Steps.refl _) (lenOf hpd hlen) hstack hW hd (fun _ _ => ⟨rfl, eT, hc, hs⟩)
  dsimp only [Pt.U, Pt.locs, Pt.cells, Pt.slots] at X' l' y' z' st hQ
  subst l' y' z'
  exact ⟨v, T', _, X', Fr.app N hN, hQ, fun t k => st.trans k⟩
/-- an instance method that its own class declares, by its contract -/
theorem own_callV (X : Stand p l e R s m args below meth c T locs cells slots) (hx : p.tables.exec = Jvm.exec) (hZ : Z.Warmed39 s.vm) {own C : String} {index : Nat} {y : MethodName} {bytes : ByteArray} {maxL : Nat} {ret : Option FieldType}
    (hown : s.vm.findClass own = some m.cls) (w1 : (Jvm.Cond.methodLink own index y).before a0 Z = true) (wd : (Jvm.Cond.declares y).before a0 Z = true) (ws : (Jvm.Cond.selects C y y).before a0 Z = true) (w2 : (Jvm.Cond.instanceMethod y).before a0 Z = true) (w3 : (Jvm.Cond.initialized y.cls).before a0 Z = true) (w4 : (Jvm.Cond.code y bytes maxL ret).before a0 Z = true)
    (hy : y.cls ≠ "java/lang/invoke/MethodHandle" ∧ y.cls ≠ "java/lang/invoke/VarHandle") {a : Addr} {argsL rest : List Value} {Q : Option Value → Heap → Prop} {rm : Room} (hM : own_Con [] l Z y bytes maxL ret rm n0 (.ref a :: argsL).toArray h Q) {W : Nat} (hf : rm.frames + 1 ≤ R.frames) (hl : W + (maxL + 11) + rm.locals ≤ R.locals)
    (E : Exa Z h a C) {g : JFrame} (hg : g.method = m) (hsize : g.locals.size = c.maxLocals) {ps : List FieldType} {r : Option FieldType} (hpd : parseMethodDescriptor y.desc = some ⟨ps, r⟩) (hlen : argsL.length = ps.length) (hstack : g.stack = argsL.reverse ++ .ref a :: rest) (hW : 2 * g.monitorRoom + (rest.map fun v => v.category).sum ≤ W)
    (hd : decode c.code g.pc = .ok (.invokevirtual index, 3)) (eT : T.heap = h) (hc : cells + rm.cells ≤ R.cells) (hs : slots + rm.slots ≤ R.slots) (N : Fr n0 locs) :
    ∃ v T' L', Stand p l e R s m args below meth c T' L' (cells + rm.cells) (slots + rm.slots) ∧ Fr n0 L' ∧ Q v T'.heap ∧ ∀ t, Steps p.tables e below (T'.setTop { g with pc := g.pc + 3, stack := v.toList ++ rest }) t → Steps p.tables e below (T.setTop g) t := by
  obtain ⟨cq, kq, qa, qb, qc⟩ := isOf hZ eT E
  obtain ⟨v, _, ⟨T', L', k', n'⟩, -, X', ⟨Lc, ⟨hN, hQ⟩, l', y', z'⟩, st⟩ := X.virtualBack hx (z := y) hown (mvT hZ w1) (mvT hZ wd) (notFace_of_selects (args := #[]) (mvT hZ ws)) (mvT hZ ws) (mvT hZ w2) hy (backOf (Q := fun v h L => Fr n0 L ∧ Q v h) (W := W) hM hZ w4 w3 hf hl) qa qc hg hsize (Steps.refl _) (lenOf hpd hlen) hstack hW hd (fun _ _ => ⟨rfl, eT, hc, hs⟩)
  dsimp only [Pt.U, Pt.locs, Pt.cells, Pt.slots] at X' l' y' z' st hQ
  subst l' y' z'
  exact ⟨v, T', _, X', Fr.app N hN, hQ, fun t k => st.trans k⟩
/-! arrays by their values -/
theorem own_ldI (X : Stand p l e R s m args below meth c T locs cells slots) (hx : p.tables.exec = Jvm.exec) (hZ : Z.Warmed39 s.vm) (eT : T.heap = h) {a : Addr} {k : ClassId} {n : Int32} {vs : List Value} {d : Value} (V : Arv Z h a k .int n vs d) {j : Int32} (hj : ¬ j < 0 ∧ j < n) {v : Value} (hv : vs.getD j.toNatClampNeg d = v)
    {g : JFrame} (hg : g.method = m) {rest : List Value} (hs : g.stack = .int j :: .ref a :: rest) (hd : decode c.code g.pc = .ok (.iaload, 1)) : ∀ t, Steps p.tables e below (T.setTop { g with pc := g.pc + 1, stack := v :: rest }) t → Steps p.tables e below (T.setTop g) t := by
  obtain ⟨cl, Ar, -, S, M, H, G⟩ := V
  have hin := inb_of S hj
  exact fun t k => X.iaload hx (by rw [eT]; exact Ar.1) (State.isArrayOf_alike hZ.alike Ar.2.1) Ar.2.2 hin (H.at hin hv) hg hs hd t k
theorem own_ldJ (X : Stand p l e R s m args below meth c T locs cells slots) (hx : p.tables.exec = Jvm.exec) (hZ : Z.Warmed39 s.vm) (eT : T.heap = h) {a : Addr} {k : ClassId} {n : Int32} {vs : List Value} {d : Value} (V : Arv Z h a k .long n vs d) {j : Int32} (hj : ¬ j < 0 ∧ j < n) {v : Value} (hv : vs.getD j.toNatClampNeg d = v)
    {g : JFrame} (hg : g.method = m) {rest : List Value} (hs : g.stack = .int j :: .ref a :: rest) (hd : decode c.code g.pc = .ok (.laload, 1)) : ∀ t, Steps p.tables e below (T.setTop { g with pc := g.pc + 1, stack := v :: rest }) t → Steps p.tables e below (T.setTop g) t := by
  obtain ⟨cl, Ar, -, S, M, H, G⟩ := V
  have hin := inb_of S hj
  exact fun t k => X.laload hx (by rw [eT]; exact Ar.1) (State.isArrayOf_alike hZ.alike Ar.2.1) Ar.2.2 hin (H.at hin hv) hg hs hd t k
theorem own_ldC (X : Stand p l e R s m args below meth c T locs cells slots) (hx : p.tables.exec = Jvm.exec) (hZ : Z.Warmed39 s.vm) (eT : T.heap = h) {a : Addr} {k : ClassId} {n : Int32} {vs : List Value} {d : Value} (V : Arv Z h a k .char n vs d) {j : Int32} (hj : ¬ j < 0 ∧ j < n) {v : Value} (hv : vs.getD j.toNatClampNeg d = v)
    {g : JFrame} (hg : g.method = m) {rest : List Value} (hs : g.stack = .int j :: .ref a :: rest) (hd : decode c.code g.pc = .ok (.caload, 1)) : ∀ t, Steps p.tables e below (T.setTop { g with pc := g.pc + 1, stack := v :: rest }) t → Steps p.tables e below (T.setTop g) t := by
  obtain ⟨cl, Ar, -, S, M, H, G⟩ := V
  have hin := inb_of S hj
  exact fun t k => X.caload hx (by rw [eT]; exact Ar.1) (State.isArrayOf_alike hZ.alike Ar.2.1) Ar.2.2 hin (H.at hin hv) hg hs hd t k
theorem own_ldB (X : Stand p l e R s m args below meth c T locs cells slots) (hx : p.tables.exec = Jvm.exec) (hZ : Z.Warmed39 s.vm) (eT : T.heap = h) {a : Addr} {k : ClassId} {n : Int32} {vs : List Value} {d : Value} (V : Arv Z h a k .byte n vs d) {j : Int32} (hj : ¬ j < 0 ∧ j < n) {v : Value} (hv : vs.getD j.toNatClampNeg d = v)
    {g : JFrame} (hg : g.method = m) {rest : List Value} (hs : g.stack = .int j :: .ref a :: rest) (hd : decode c.code g.pc = .ok (.baload, 1)) : ∀ t, Steps p.tables e below (T.setTop { g with pc := g.pc + 1, stack := v :: rest }) t → Steps p.tables e below (T.setTop g) t := by
  obtain ⟨cl, Ar, -, S, M, H, G⟩ := V
  have hin := inb_of S hj
  exact fun t k => X.baloadBytes hx (by rw [eT]; exact Ar.1) (State.isArrayOf_alike hZ.alike Ar.2.1) Ar.2.2 hin (H.at hin hv) hg hs hd t k
theorem own_len (X : Stand p l e R s m args below meth c T locs cells slots) (hx : p.tables.exec = Jvm.exec) (hZ : Z.Warmed39 s.vm) (eT : T.heap = h) {a : Addr} {k : ClassId} {ty : FieldType} {n : Int32} {vs : List Value} {d : Value} (V : Arv Z h a k ty n vs d)
    {g : JFrame} (hg : g.method = m) {rest : List Value} (hs : g.stack = .ref a :: rest) (hd : decode c.code g.pc = .ok (.arraylength, 1)) : ∀ t, Steps p.tables e below (T.setTop { g with pc := g.pc + 1, stack := .int n :: rest }) t → Steps p.tables e below (T.setTop g) t := by
  obtain ⟨cl, Ar, -, S, M, H, G⟩ := V
  intro t k
  refine X.arraylength hx (by rw [eT]; exact Ar.1) (State.isArrayOf_alike hZ.alike Ar.2.1) hg hs hd _ ?_
  rw [len_of S M]
  exact k
theorem own_stI (X : Stand p l e R s m args below meth c T locs cells slots) (hx : p.tables.exec = Jvm.exec) (hZ : Z.Warmed39 s.vm) (eT : T.heap = h) {a : Addr} {k : ClassId} {n : Int32} {vs : List Value} {d : Value} (V : Arv Z h a k .int n vs d) {j : Int32} (hj : ¬ j < 0 ∧ j < n) (i : Nat) (hi : j.toNatClampNeg = i) (hl : i < vs.length) {x : Int32}
    (N : Fr n0 locs) (ga : n0 ≤ a) {g : JFrame} (hg : g.method = m) {rest : List Value} (hs : g.stack = (.int x) :: .int j :: .ref a :: rest) (hd : decode c.code g.pc = .ok (.iastore, 1)) :
    ∃ T' h' L', Stand p l e R s m args below meth c T' L' cells slots ∧ Fr n0 L' ∧ T'.heap = h' ∧ Wr h h' a i (.int x) ∧ Arv Z h' a k .int n (vs.set i (.int x)) d ∧ ∀ t, Steps p.tables e below (T'.setTop { g with pc := g.pc + 1, stack := rest }) t → Steps p.tables e below (T.setTop g) t := by
  obtain ⟨cl, Ar, q, S, M, H, G⟩ := V
  obtain ⟨T', h', X', e', W, st⟩ := stI X hx hZ eT Ar (inb_of S hj) hg hs hd
  have V' := Arv.set Ar q S M H G rfl W i hi hl
  rw [hi] at W
  exact ⟨T', h', _, X', Fr.snoc X' N ga, e', W, V', st⟩
theorem own_stJ (X : Stand p l e R s m args below meth c T locs cells slots) (hx : p.tables.exec = Jvm.exec) (hZ : Z.Warmed39 s.vm) (eT : T.heap = h) {a : Addr} {k : ClassId} {n : Int32} {vs : List Value} {d : Value} (V : Arv Z h a k .long n vs d) {j : Int32} (hj : ¬ j < 0 ∧ j < n) (i : Nat) (hi : j.toNatClampNeg = i) (hl : i < vs.length) {x : Int64}
    (N : Fr n0 locs) (ga : n0 ≤ a) {g : JFrame} (hg : g.method = m) {rest : List Value} (hs : g.stack = (.long x) :: .int j :: .ref a :: rest) (hd : decode c.code g.pc = .ok (.lastore, 1)) :
    ∃ T' h' L', Stand p l e R s m args below meth c T' L' cells slots ∧ Fr n0 L' ∧ T'.heap = h' ∧ Wr h h' a i (.long x) ∧ Arv Z h' a k .long n (vs.set i (.long x)) d ∧ ∀ t, Steps p.tables e below (T'.setTop { g with pc := g.pc + 1, stack := rest }) t → Steps p.tables e below (T.setTop g) t := by
  obtain ⟨cl, Ar, q, S, M, H, G⟩ := V
  obtain ⟨T', h', X', e', W, st⟩ := stJ X hx hZ eT Ar (inb_of S hj) hg hs hd
  have V' := Arv.set Ar q S M H G rfl W i hi hl
  rw [hi] at W
  exact ⟨T', h', _, X', Fr.snoc X' N ga, e', W, V', st⟩
theorem own_stC (X : Stand p l e R s m args below meth c T locs cells slots) (hx : p.tables.exec = Jvm.exec) (hZ : Z.Warmed39 s.vm) (eT : T.heap = h) {a : Addr} {k : ClassId} {n : Int32} {vs : List Value} {d : Value} (V : Arv Z h a k .char n vs d) {j : Int32} (hj : ¬ j < 0 ∧ j < n) (i : Nat) (hi : j.toNatClampNeg = i) (hl : i < vs.length) {x : Int32}
    (N : Fr n0 locs) (ga : n0 ≤ a) {g : JFrame} (hg : g.method = m) {rest : List Value} (hs : g.stack = (.int x) :: .int j :: .ref a :: rest) (hd : decode c.code g.pc = .ok (.castore, 1)) :
    ∃ T' h' L', Stand p l e R s m args below meth c T' L' cells slots ∧ Fr n0 L' ∧ T'.heap = h' ∧ Wr h h' a i (.int (nar .char x)) ∧ Arv Z h' a k .char n (vs.set i (.int (nar .char x))) d ∧ ∀ t, Steps p.tables e below (T'.setTop { g with pc := g.pc + 1, stack := rest }) t → Steps p.tables e below (T.setTop g) t := by
  obtain ⟨cl, Ar, q, S, M, H, G⟩ := V
  obtain ⟨T', h', X', e', W, st⟩ := stC X hx hZ eT Ar (inb_of S hj) hg hs hd
  have V' := Arv.set Ar q S M H G (fits_nar_char _) W i hi hl
  rw [hi] at W
  exact ⟨T', h', _, X', Fr.snoc X' N ga, e', W, V', st⟩
theorem own_stB (X : Stand p l e R s m args below meth c T locs cells slots) (hx : p.tables.exec = Jvm.exec) (hZ : Z.Warmed39 s.vm) (eT : T.heap = h) {a : Addr} {k : ClassId} {n : Int32} {vs : List Value} {d : Value} (V : Arv Z h a k .byte n vs d) {j : Int32} (hj : ¬ j < 0 ∧ j < n) (i : Nat) (hi : j.toNatClampNeg = i) (hl : i < vs.length) {x : Int32}
    (N : Fr n0 locs) (ga : n0 ≤ a) {g : JFrame} (hg : g.method = m) {rest : List Value} (hs : g.stack = (.int x) :: .int j :: .ref a :: rest) (hd : decode c.code g.pc = .ok (.bastore, 1)) :
    ∃ T' h' L', Stand p l e R s m args below meth c T' L' cells slots ∧ Fr n0 L' ∧ T'.heap = h' ∧ Wr h h' a i (.int (nar .byte x)) ∧ Arv Z h' a k .byte n (vs.set i (.int (nar .byte x))) d ∧ ∀ t, Steps p.tables e below (T'.setTop { g with pc := g.pc + 1, stack := rest }) t → Steps p.tables e below (T.setTop g) t := by
  obtain ⟨cl, Ar, q, S, M, H, G⟩ := V
  obtain ⟨T', h', X', e', W, st⟩ := stB X hx hZ eT Ar (inb_of S hj) hg hs hd
  have V' := Arv.set Ar q S M H G (fits_nar_byte _) W i hi hl
  rw [hi] at W
  exact ⟨T', h', _, X', Fr.snoc X' N ga, e', W, V', st⟩
theorem own_new (X : Stand p l e R s m args below meth c T locs cells slots) (hx : p.tables.exec = Jvm.exec) (hZ : Z.Warmed39 s.vm) {aty : ArrayType} (w : (Jvm.Cond.arrayClass (newarray.typeOf aty)).before a0 Z = true) (eT : T.heap = h) {g : JFrame} (hg : g.method = m) (hd : decode c.code g.pc = .ok (.newarray aty, 2)) {n : Int32} {rest : List Value} (hs : g.stack = .int n :: rest)
    (hn : ¬ n < 0) {cap : Nat} (hcap : n.toNatClampNeg ≤ cap) (hb : cap * 8 ≤ 536870912) (hc : cells + 1 ≤ R.cells) (hl : slots + cap ≤ R.slots) :
    ∃ T' h' k a, a = h.size ∧ Stand p l e R s m args below meth c T' locs (cells + 1) (slots + cap) ∧ T'.heap = h' ∧ Ext h h' ∧ Arv Z h' a k (newarray.typeOf aty) n [] (defaultValue (newarray.typeOf aty)) ∧
      ∀ t, Steps p.tables e below (T'.setTop { g with pc := g.pc + 2, stack := .ref a :: rest }) t → Steps p.tables e below (T.setTop g) t := by
  obtain ⟨T', h', k, X', e', E, A, st⟩ := newP X hx hZ w eT hg hd hs hn hcap hb hc hl
  exact ⟨T', h', k, _, rfl, X', e', E, Arv.new A hn, st⟩
/-- what a method that only reads leaves -/
def own_P (z : Value) (h0 : Heap) : Option Value → Heap → Prop := fun v h => v = some z ∧ h = h0
end Own
section OwnW
variable {p : Program} {l : Launch} {e : Env} {R : Room} {s : State} {m : MethodId} {args : Array Value} {below : List Frame} {meth : Method} {c : Code} {T : State} {locs : List Loc} {cells slots : Nat} {n0 kc ks : Nat}
/-- as own_Ends, behind a step that may have interned -/
def own_EndsW (p : Program) (e : Env) (below : List Frame) (s : State) (n0 kc ks : Nat) (T : State) (g : JFrame) (Q : Option Value → Heap → Prop) : Prop :=
  ∃ s₂ o, Steps p.tables e below (T.setTop g) s₂ ∧ s₂.status = .running ∧ Ended s₂ below o ∧ ∃ v L, o = .returned v ∧ (Fr n0 L ∧ Q v s₂.heap) ∧ ReturnedEndW s o s₂ L kc ks
theorem own_goW {T' : State} {g g' : JFrame} {Q : Option Value → Heap → Prop} (k : ∀ t, Steps p.tables e below (T'.setTop g') t → Steps p.tables e below (T.setTop g) t) (q : own_EndsW p e below s n0 kc ks T' g' Q) : own_EndsW p e below s n0 kc ks T g Q := by
  obtain ⟨s₂, o, h1, r⟩ := q
  exact ⟨s₂, o, k _ h1, r⟩
theorem own_retNW {vm₁ : Vm} (X : Stand p l e R (s.setVm vm₁) m args below meth c T locs cells slots) (hx : p.tables.exec = Jvm.exec) (hlk : meth.locks = false) {n : Nat} (hS : s.Since vm₁ n) (hn : n ≤ T.heap.size) {pc : Nat} {Ls : Array Slot} {z : Int32} {t : FieldType} {rest : List Value} (hret : meth.sig.returnType = some t) (ht : t = .boolean ∨ t = .byte ∨ t = .char ∨ t = .short)
    (hd : decode c.code pc = .ok (.ireturn, 1)) {Q : Option Value → Heap → Prop} (hc : cells ≤ kc) (hs : slots ≤ ks) (N : Fr n0 locs) (q : Q (some (.int (nar t z))) T.heap) : own_EndsW p e below s n0 kc ks T (mkF m pc Ls (.int z :: rest)) Q := by
  obtain ⟨fs, hr, hrun, hended, ⟨v, hv⟩, hW, hi, hsame⟩ := X.leaveW hS hn (v := some (.int (nar t z))) (fun h => by rw [hret] at h; cases h) hlk
  exact ⟨_, _, retN X hx hret ht hd hr, hrun, hended, _, _, rfl, ⟨N, q⟩, ⟨v, hv⟩, hW, hi, hsame.mono hc hs⟩
theorem own_bodyW {ws : List Jvm.Cond} {y : MethodName} {bytes : ByteArray} {maxL : Nat} {ret : Option FieldType} {rm : Room} {Z : State} {as' : Array Value} {h : Heap} {Q : Option Value → Heap → Prop} (hy : plainFor y = true) (fr : MethodId → JFrame) (hfr : ∀ m, entryFrame m as' maxL = fr m)
    (H : ∀ (p : Program) (e : Env) (s : State) (m : MethodId) (below : List Frame) (meth : Method) (c : Code) (s₁ : State), p.tables.exec = Jvm.exec → c.code = bytes → c.maxLocals = maxL → s.vm.findClass y.cls = some m.cls → meth.name = y.name → Z.Warmed39 s.vm → meth.sig.returnType = ret → meth.locks = false →
      Stand p l e rm s m as' below meth c s₁ [] 0 0 → s₁.heap = h → Fr n0 [] → own_EndsW p e below s n0 rm.cells rm.slots s₁ (fr m) Q) :
    MetFree l y (head1 (Jvm.Cond.code y bytes maxL ret :: ws) rm) (fun a U => a = as' ∧ Z.Warmed39 U.vm ∧ U.heap = h) (fun _ _ _ _ _ => True) (fun _ U o U' => ∃ v L, o = .returned v ∧ (Fr n0 L ∧ Q v U'.heap) ∧ ReturnedEndW U o U' L rm.cells rm.slots) := by
  refine MetFree.of_bodySF hy hisR ?_
  intro p e s m args below meth c s₁ Bd hml0 hP hK
  obtain ⟨rfl, hZ, hh⟩ := hP
  have E := H p e s m below meth c s₁ Bd.exec Bd.bytes hml0 (findClass_of_methodNamed Bd.named) (name_of_methodNamed Bd.named Bd.method).1 hZ Bd.returns Bd.notSynchronized (Stand.of_body Bd) (by rw [← hh, Bd.state]; rfl) (Fr.nil n0)
  rw [← hfr m] at E
  exact E
end OwnW

def f1_0 (p0 : Int32) (p1 : Int32) (p2 : Int32) (p3 : Int32) : Int32 := (if (((p0.toUInt32 >>> (p1 &&& 31).toUInt32).toInt32) &&& (1 : Int32)) = (0 : Int32) then (nar .byte (((p2.toUInt32 >>> (p3 &&& 31).toUInt32).toInt32).toInt8.toInt32)) else (nar .byte (31 : Int32)))
abbrev own_r1 : Room := { frames := 0, cells := 0, slots := 0, locals := 0 }
theorem d1_0 : decode method_2_code 0 = .ok (.iload_n 0, 1) := by decide +kernel
theorem d1_1 : decode method_2_code 1 = .ok (.iload_n 1, 1) := by decide +kernel
theorem d1_2 : decode method_2_code 2 = .ok (.iushr, 1) := by decide +kernel
theorem d1_3 : decode method_2_code 3 = .ok (.iconst 1, 1) := by decide +kernel
theorem d1_4 : decode method_2_code 4 = .ok (.iand, 1) := by decide +kernel
theorem d1_5 : decode method_2_code 5 = .ok (.ifCond .eq 6, 3) := by decide +kernel
theorem d1_11 : decode method_2_code 11 = .ok (.iload_n 2, 1) := by decide +kernel
theorem d1_12 : decode method_2_code 12 = .ok (.iload_n 3, 1) := by decide +kernel
theorem d1_13 : decode method_2_code 13 = .ok (.iushr, 1) := by decide +kernel
theorem d1_14 : decode method_2_code 14 = .ok (.i2b, 1) := by decide +kernel
theorem d1_15 : decode method_2_code 15 = .ok (.ireturn, 1) := by decide +kernel
theorem d1_8 : decode method_2_code 8 = .ok (.bipush 31, 2) := by decide +kernel
theorem d1_10 : decode method_2_code 10 = .ok (.ireturn, 1) := by decide +kernel
theorem ef_1 (m : MethodId) (p0 : Int32) (p1 : Int32) (p2 : Int32) (p3 : Int32) : entryFrame m #[(.int p0), (.int p1), (.int p2), (.int p3)] 4 = mkF m 0 #[.val (.int p0), .val (.int p1), .val (.int p2), .val (.int p3)] [] := by first | (simp [entryFrame, mkF, argsToLocals, Value.category]; done) | rfl
set_option maxRecDepth 65536 in
set_option maxHeartbeats 40000000 in
theorem rm1 (l : Launch) (Z : State) (a0 : Array Value) (hw : ∀ d ∈ tables_1, d.before a0 Z = true) (p0 : Int32) (p1 : Int32) (p2 : Int32) (p3 : Int32) (h0 : Heap) (n0 : Nat) : own_Con [] l Z (⟨"com/example/encabeza/encabeza/model/FieldIndicatorPinLaw", "draw", "(IIII)B"⟩ : MethodName) method_2_code 4 (some .byte) own_r1 n0 #[(.int p0), (.int p1), (.int p2), (.int p3)] h0 (own_P (.int (f1_0 p0 p1 p2 p3)) h0) := by
  refine own_body (plainFor_of_name (by first | (simp [plainName, overriddenIn]; done) | decide +kernel)) (fun m => mkF m 0 #[.val (.int p0), .val (.int p1), .val (.int p2), .val (.int p3)] []) (fun m => ef_1 m p0 p1 p2 p3) ?_
  intro p e s m below meth c s₁ hx hby hml hown hnm hZ hret hlk X0 e0 N0
  show own_Ends p e below s n0 _ _ _ _ (own_P (.int (if (((p0.toUInt32 >>> (p1 &&& 31).toUInt32).toInt32) &&& (1 : Int32)) = (0 : Int32) then (nar .byte (((p2.toUInt32 >>> (p3 &&& 31).toUInt32).toInt32).toInt8.toInt32)) else (nar .byte (31 : Int32)))) h0)
  refine own_go (T' := s₁) (g' := (mkF m 5 #[.val (.int p0), .val (.int p1), .val (.int p2), .val (.int p3)] [(.int (((p0.toUInt32 >>> (p1 &&& 31).toUInt32).toInt32) &&& (1 : Int32)))])) (fun t k => ?_) ?_
  · show Steps p.tables e below (s₁.setTop (mkF m 0 #[.val (.int p0), .val (.int p1), .val (.int p2), .val (.int p3)] [])) t
    refine XS.iloadN X0.here hx rfl (hb hby d1_0) rfl ?_
    show Steps p.tables e below (s₁.setTop (mkF m 1 #[.val (.int p0), .val (.int p1), .val (.int p2), .val (.int p3)] [(.int p0)])) _
    refine XS.iloadN X0.here hx rfl (hb hby d1_1) rfl ?_
    show Steps p.tables e below (s₁.setTop (mkF m 2 #[.val (.int p0), .val (.int p1), .val (.int p2), .val (.int p3)] [(.int p1), (.int p0)])) _
    refine XS.iushr X0.here hx rfl (hb hby d1_2) rfl ?_
    show Steps p.tables e below (s₁.setTop (mkF m 3 #[.val (.int p0), .val (.int p1), .val (.int p2), .val (.int p3)] [(.int ((p0.toUInt32 >>> (p1 &&& 31).toUInt32).toInt32))])) _
    refine XS.iconst X0.here hx rfl (hb hby d1_3) ?_
    show Steps p.tables e below (s₁.setTop (mkF m 4 #[.val (.int p0), .val (.int p1), .val (.int p2), .val (.int p3)] [(.int (1 : Int32)), (.int ((p0.toUInt32 >>> (p1 &&& 31).toUInt32).toInt32))])) _
    refine XS.iand X0.here hx rfl (hb hby d1_4) rfl ?_
    show Steps p.tables e below (s₁.setTop (mkF m 5 #[.val (.int p0), .val (.int p1), .val (.int p2), .val (.int p3)] [(.int (((p0.toUInt32 >>> (p1 &&& 31).toUInt32).toInt32) &&& (1 : Int32)))])) _
    exact k
  by_cases hc5_1 : (((p0.toUInt32 >>> (p1 &&& 31).toUInt32).toInt32) &&& (1 : Int32)) = (0 : Int32)
  · rw [if_pos hc5_1]
    refine own_go (T' := s₁) (g' := (mkF m 11 #[.val (.int p0), .val (.int p1), .val (.int p2), .val (.int p3)] [])) (fun t k => ?_) ?_
    · refine XS.ifYes X0.here hx rfl (pc0 := 5) (pc' := 11) rfl (hb hby d1_5) rfl ((if0 _ _).trans (teq hc5_1).1) (by decide) (by decide) ?_
      exact k
    refine own_go (T' := s₁) (g' := (mkF m 15 #[.val (.int p0), .val (.int p1), .val (.int p2), .val (.int p3)] [(.int (((p2.toUInt32 >>> (p3 &&& 31).toUInt32).toInt32).toInt8.toInt32))])) (fun t k => ?_) ?_
    · show Steps p.tables e below (s₁.setTop (mkF m 11 #[.val (.int p0), .val (.int p1), .val (.int p2), .val (.int p3)] [])) t
      refine XS.iloadN X0.here hx rfl (hb hby d1_11) rfl ?_
      show Steps p.tables e below (s₁.setTop (mkF m 12 #[.val (.int p0), .val (.int p1), .val (.int p2), .val (.int p3)] [(.int p2)])) _
      refine XS.iloadN X0.here hx rfl (hb hby d1_12) rfl ?_
      show Steps p.tables e below (s₁.setTop (mkF m 13 #[.val (.int p0), .val (.int p1), .val (.int p2), .val (.int p3)] [(.int p3), (.int p2)])) _
      refine XS.iushr X0.here hx rfl (hb hby d1_13) rfl ?_
      show Steps p.tables e below (s₁.setTop (mkF m 14 #[.val (.int p0), .val (.int p1), .val (.int p2), .val (.int p3)] [(.int ((p2.toUInt32 >>> (p3 &&& 31).toUInt32).toInt32))])) _
      refine XS.i2b X0.here hx rfl (hb hby d1_14) rfl ?_
      show Steps p.tables e below (s₁.setTop (mkF m 15 #[.val (.int p0), .val (.int p1), .val (.int p2), .val (.int p3)] [(.int (((p2.toUInt32 >>> (p3 &&& 31).toUInt32).toInt32).toInt8.toInt32))])) _
      exact k
    exact own_retN X0 hx hlk hret (by simp) (hb hby d1_15) (by decide) (by decide) N0 ⟨rfl, e0⟩
  · rw [if_neg hc5_1]
    refine own_go (T' := s₁) (g' := (mkF m 8 #[.val (.int p0), .val (.int p1), .val (.int p2), .val (.int p3)] [])) (fun t k => ?_) ?_
    · refine XS.ifNo X0.here hx rfl (hb hby d1_5) rfl ((if0 _ _).trans (feq hc5_1).1) ?_
      exact k
    refine own_go (T' := s₁) (g' := (mkF m 10 #[.val (.int p0), .val (.int p1), .val (.int p2), .val (.int p3)] [(.int (31 : Int32))])) (fun t k => ?_) ?_
    · show Steps p.tables e below (s₁.setTop (mkF m 8 #[.val (.int p0), .val (.int p1), .val (.int p2), .val (.int p3)] [])) t
      refine XS.bipush X0.here hx rfl (hb hby d1_8) ?_
      show Steps p.tables e below (s₁.setTop (mkF m 10 #[.val (.int p0), .val (.int p1), .val (.int p2), .val (.int p3)] [(.int (31 : Int32))])) _
      exact k
    exact own_retN X0 hx hlk hret (by simp) (hb hby d1_10) (by decide) (by decide) N0 ⟨rfl, e0⟩
def f7_0 (p0 : Int32) (p1 : Int32) : Int32 := (if p1 < p0 then p1 else p0)
abbrev own_r7 : Room := { frames := 0, cells := 0, slots := 0, locals := 0 }
theorem d7_0 : decode jdk_29_method_69_code 0 = .ok (.iload_n 0, 1) := by decide +kernel
theorem d7_1 : decode jdk_29_method_69_code 1 = .ok (.iload_n 1, 1) := by decide +kernel
theorem d7_2 : decode jdk_29_method_69_code 2 = .ok (.if_icmp .gt 7, 3) := by decide +kernel
theorem d7_9 : decode jdk_29_method_69_code 9 = .ok (.iload_n 1, 1) := by decide +kernel
theorem d7_10 : decode jdk_29_method_69_code 10 = .ok (.ireturn, 1) := by decide +kernel
theorem d7_5 : decode jdk_29_method_69_code 5 = .ok (.iload_n 0, 1) := by decide +kernel
theorem d7_6 : decode jdk_29_method_69_code 6 = .ok (.goto 4, 3) := by decide +kernel
theorem ef_7 (m : MethodId) (p0 : Int32) (p1 : Int32) : entryFrame m #[(.int p0), (.int p1)] 2 = mkF m 0 #[.val (.int p0), .val (.int p1)] [] := by first | (simp [entryFrame, mkF, argsToLocals, Value.category]; done) | rfl
set_option maxRecDepth 65536 in
set_option maxHeartbeats 40000000 in
theorem rm7 (l : Launch) (Z : State) (a0 : Array Value) (hw : ∀ d ∈ tables_1, d.before a0 Z = true) (p0 : Int32) (p1 : Int32) (h0 : Heap) (n0 : Nat) : own_Con [] l Z (⟨"java/lang/Math", "min", "(II)I"⟩ : MethodName) jdk_29_method_69_code 2 (some .int) own_r7 n0 #[(.int p0), (.int p1)] h0 (own_P (.int (f7_0 p0 p1)) h0) := by
  refine own_body (Jvm.Free.JP.mathPlain rfl (by decide +kernel)) (fun m => mkF m 0 #[.val (.int p0), .val (.int p1)] []) (fun m => ef_7 m p0 p1) ?_
  intro p e s m below meth c s₁ hx hby hml hown hnm hZ hret hlk X0 e0 N0
  show own_Ends p e below s n0 _ _ _ _ (own_P (.int (if p1 < p0 then p1 else p0)) h0)
  refine own_go (T' := s₁) (g' := (mkF m 2 #[.val (.int p0), .val (.int p1)] [(.int p1), (.int p0)])) (fun t k => ?_) ?_
  · show Steps p.tables e below (s₁.setTop (mkF m 0 #[.val (.int p0), .val (.int p1)] [])) t
    refine XS.iloadN X0.here hx rfl (hb hby d7_0) rfl ?_
    show Steps p.tables e below (s₁.setTop (mkF m 1 #[.val (.int p0), .val (.int p1)] [(.int p0)])) _
    refine XS.iloadN X0.here hx rfl (hb hby d7_1) rfl ?_
    show Steps p.tables e below (s₁.setTop (mkF m 2 #[.val (.int p0), .val (.int p1)] [(.int p1), (.int p0)])) _
    exact k
  by_cases hc2_1 : p1 < p0
  · rw [if_pos hc2_1]
    refine own_go (T' := s₁) (g' := (mkF m 9 #[.val (.int p0), .val (.int p1)] [])) (fun t k => ?_) ?_
    · refine XS.icmpYes X0.here hx rfl (pc0 := 2) (pc' := 9) rfl (hb hby d7_2) rfl (tlt hc2_1).2.2.1 (by decide) (by decide) ?_
      exact k
    refine own_go (T' := s₁) (g' := (mkF m 10 #[.val (.int p0), .val (.int p1)] [(.int p1)])) (fun t k => ?_) ?_
    · show Steps p.tables e below (s₁.setTop (mkF m 9 #[.val (.int p0), .val (.int p1)] [])) t
      refine XS.iloadN X0.here hx rfl (hb hby d7_9) rfl ?_
      show Steps p.tables e below (s₁.setTop (mkF m 10 #[.val (.int p0), .val (.int p1)] [(.int p1)])) _
      exact k
    exact own_retI X0 hx hlk hret (hb hby d7_10) (by decide) (by decide) N0 ⟨rfl, e0⟩
  · rw [if_neg hc2_1]
    refine own_go (T' := s₁) (g' := (mkF m 5 #[.val (.int p0), .val (.int p1)] [])) (fun t k => ?_) ?_
    · refine XS.icmpNo X0.here hx rfl (hb hby d7_2) rfl (flt hc2_1).2.2.1 ?_
      exact k
    refine own_go (T' := s₁) (g' := (mkF m 10 #[.val (.int p0), .val (.int p1)] [(.int p0)])) (fun t k => ?_) ?_
    · show Steps p.tables e below (s₁.setTop (mkF m 5 #[.val (.int p0), .val (.int p1)] [])) t
      refine XS.iloadN X0.here hx rfl (hb hby d7_5) rfl ?_
      show Steps p.tables e below (s₁.setTop (mkF m 6 #[.val (.int p0), .val (.int p1)] [(.int p0)])) _
      refine XS.goto X0.here hx rfl (pc0 := 6) (pc' := 10) rfl (hb hby d7_6) (by decide) (by decide) ?_
      show Steps p.tables e below (s₁.setTop (mkF m 10 #[.val (.int p0), .val (.int p1)] [(.int p0)])) _
      exact k
    exact own_retI X0 hx hlk hret (hb hby d7_10) (by decide) (by decide) N0 ⟨rfl, e0⟩
theorem own_ti {n : Nat} (h : n < 2 ^ 31) : (Int32.ofNat n).toInt = n := Jvm.LawKit.toInt_of rfl h
theorem own_ci {n : Nat} (h : n < 2 ^ 31) : (Int32.ofNat n).toNatClampNeg = n := Jvm.LawKit.clamp_of rfl h
theorem own_addN (a b : Nat) : Int32.ofNat a + Int32.ofNat b = Int32.ofNat (a + b) := by
  apply Int32.toBitVec_inj.mp
  simp [BitVec.ofNat_add]
theorem own_inc {n : Nat} : Int32.ofNat n + 1 = Int32.ofNat (n + 1) := (inc_ofNat n).symm
theorem own_nat {v : Int32} {b : Nat} (h0 : 0 ≤ v.toInt) (h1 : v.toInt ≤ b) : ∃ n : Nat, v = Int32.ofNat n ∧ n ≤ b := by
  refine ⟨v.toInt.toNat, ?_, by omega⟩
  apply Int32.toInt_inj.mp
  have := rng32 v
  rw [own_ti (by omega)]
  omega
def own_us (vs : List Value) (fN lN : Nat) : List Value := (List.range lN).map fun i => vs.getD (fN + i) (.int 0)
def own_Qr (Z : State) (n0 : Nat) (us : List Value) (lN : Nat) (h0 : Heap) : Option Value → Heap → Prop := fun v h => ∃ b k, v = some (.ref b) ∧ n0 ≤ b ∧ h0.size ≤ b ∧ Keep h0 h [] ∧ Arv Z h b k .byte (Int32.ofNat lN) us (.int 0)
def own_Qf (Z : State) (n0 : Nat) (a : Addr) (us : List Value) (lN : Nat) (h0 : Heap) : Option Value → Heap → Prop := fun v h => v = none ∧ Keep h0 h [a] ∧ Exa Z h a "com/example/encabeza/encabeza/model/Field" ∧ ∃ b k, Fld Z h a "com/example/encabeza/encabeza/model/Field" "data" "[B" (.ref b) ∧ Arv Z h b k .byte (Int32.ofNat lN) us (.int 0)
theorem own_ge {fN lN : Nat} (hf : fN ≤ 1) (hl : lN ≤ 3) : ¬ Int32.ofNat (fN + lN) < Int32.ofNat fN := by
  rw [Int32.lt_iff_toInt_lt, own_ti (by omega), own_ti (by omega)]
  omega
theorem own_len1 {fN lN : Nat} (hf : fN ≤ 1) (hl : lN ≤ 3) : Int32.ofNat (fN + lN) - Int32.ofNat fN = Int32.ofNat lN := by
  have hs := c_isub (Int32.ofNat (fN + lN)) (Int32.ofNat fN)
  have := rng32 (Int32.ofNat (fN + lN) - Int32.ofNat fN)
  apply Int32.toInt_inj.mp
  rw [own_ti (by omega), own_ti (by omega)] at hs
  rw [own_ti (by omega)]
  omega
theorem own_n0 {n : Nat} (h : n ≤ 4) : ¬ Int32.ofNat n < 0 := by
  rw [Int32.lt_iff_toInt_lt, own_ti (by omega), show (0 : Int32).toInt = 0 from rfl]
  omega
theorem own_nn {lN : Nat} (hl : lN ≤ 3) : ¬ Int32.ofNat lN < 0 := own_n0 (by omega)
theorem own_cap {lN : Nat} (hl : lN ≤ 3) : (Int32.ofNat lN).toNatClampNeg ≤ 3 := by rw [own_ci (by omega)]; exact hl
theorem own_mn {fN lN : Nat} (hf : fN ≤ 1) (hl : lN ≤ 3) : f7_0 ((4 : Int32) - Int32.ofNat fN) (Int32.ofNat lN) = Int32.ofNat lN := by
  have hs := c_isub 4 (Int32.ofNat fN)
  have := rng32 ((4 : Int32) - Int32.ofNat fN)
  rw [own_ti (by omega), show (4 : Int32).toInt = 4 from rfl] at hs
  unfold f7_0
  by_cases h : Int32.ofNat lN < (4 : Int32) - Int32.ofNat fN
  · rw [if_pos h]
  · rw [if_neg h]
    rw [Int32.lt_iff_toInt_lt, own_ti (by omega)] at h
    apply Int32.toInt_inj.mp
    rw [own_ti (by omega)]
    omega
theorem own_b1 {fN lN : Nat} (hf : fN ≤ 1) (hl : lN ≤ 3) : (Int32.ofNat fN).toNatClampNeg + (Int32.ofNat lN).toNatClampNeg ≤ (4 : Int32).toNatClampNeg := by
  rw [own_ci (by omega), own_ci (by omega)]
  show fN + lN ≤ 4
  omega
theorem own_b2 {lN : Nat} (hl : lN ≤ 3) : (0 : Int32).toNatClampNeg + (Int32.ofNat lN).toNatClampNeg ≤ (Int32.ofNat lN).toNatClampNeg := by
  show 0 + _ ≤ _
  omega
theorem own_hus {vs : List Value} {fN lN : Nat} (hf : fN ≤ 1) (hl : lN ≤ 3) : own_us vs fN lN = (List.range (Int32.ofNat lN).toNatClampNeg).map fun i => vs.getD ((Int32.ofNat fN).toNatClampNeg + i) (.int 0) := by
  rw [own_ci (by omega), own_ci (by omega)]
  rfl
theorem own_b3 {lN : Nat} (hl : lN ≤ 3) : (0 : Int32).toNatClampNeg + (Int32.ofNat lN).toNatClampNeg ≤ (List.replicate lN (Value.int 0)).length := by
  rw [own_ci (by omega), List.length_replicate]
  show 0 + lN ≤ lN
  omega
theorem own_cp {vs : List Value} {fN lN : Nat} (hl : lN ≤ 3) : (List.replicate lN (Value.int 0)).take (0 : Int32).toNatClampNeg ++ own_us vs fN lN ++ (List.replicate lN (Value.int 0)).drop ((0 : Int32).toNatClampNeg + (Int32.ofNat lN).toNatClampNeg) = own_us vs fN lN := by
  rw [own_ci (by omega), show (0 : Int32).toNatClampNeg = 0 from rfl]
  simp
theorem own_z {p1 : Int32} {fN : Nat} (hp1 : p1 = Int32.ofNat fN) (hf : fN ≤ 1) (h : p1 = 0) : fN = 0 := by
  have e := congrArg Int32.toInt (hp1.symm.trans h)
  rw [own_ti (by omega), show (0 : Int32).toInt = 0 from rfl] at e
  omega
theorem own_n4 {p2 : Int32} {fN lN : Nat} (hp2 : p2 = Int32.ofNat (fN + lN)) (hf : fN ≤ 1) (hl : lN ≤ 3) (hz : fN = 0) : ¬ p2 = 4 := by
  intro h
  have e := congrArg Int32.toInt (hp2.symm.trans h)
  rw [own_ti (by omega), show (4 : Int32).toInt = 4 from rfl] at e
  omega
def own_ind (lN : Nat) (u0 u1 p : Int32) : Int32 := if lN = 0 then -1 else if u0 = 31 then -1 else if p = 0 then u0 &&& 255 else if lN = 1 then -1 else if u1 = 31 then -1 else u1 &&& 255
theorem own_eqk {lN k : Nat} (hl : lN ≤ 3) (hk : k ≤ 3) : (Int32.ofNat k = Int32.ofNat lN) ↔ lN = k := by
  constructor
  · intro h
    have e := congrArg Int32.toInt h
    rw [own_ti (by omega), own_ti (by omega)] at e
    omega
  · intro h; rw [h]
theorem own_eq0 {lN : Nat} (hl : lN ≤ 3) (h : (0 : Int32) = Int32.ofNat lN) : lN = 0 := (own_eqk (k := 0) hl (by omega)).mp h
theorem own_neq0 {lN : Nat} (hl : lN ≤ 3) (h : ¬ (0 : Int32) = Int32.ofNat lN) : ¬ lN = 0 := fun e => h ((own_eqk (k := 0) hl (by omega)).mpr e)
theorem own_eq1 {lN : Nat} (hl : lN ≤ 3) (h : (1 : Int32) = Int32.ofNat lN) : lN = 1 := (own_eqk (k := 1) hl (by omega)).mp h
theorem own_neq1 {lN : Nat} (hl : lN ≤ 3) (h : ¬ (1 : Int32) = Int32.ofNat lN) : ¬ lN = 1 := fun e => h ((own_eqk (k := 1) hl (by omega)).mpr e)
theorem own_in0 {lN : Nat} (hl : lN ≤ 3) (h : ¬ lN = 0) : 0 < lN := by omega
theorem own_in1 {lN : Nat} (hl : lN ≤ 3) (h0 : ¬ lN = 0) (h : ¬ lN = 1) : 1 < lN := by omega
theorem own_lk {lN k : Nat} (hl : lN ≤ 3) (hk : k ≤ 3) : (Int32.ofNat k < Int32.ofNat lN) ↔ k < lN := by
  rw [Int32.lt_iff_toInt_lt, own_ti (by omega), own_ti (by omega)]
  omega
theorem own_ui0 {lN : Nat} (hl : lN ≤ 3) (h : 0 < lN) : ¬ (0 : Int32) < 0 ∧ (0 : Int32) < Int32.ofNat lN := ⟨by decide, (own_lk (k := 0) hl (by omega)).mpr h⟩
theorem own_ui1 {lN : Nat} (hl : lN ≤ 3) (h : 1 < lN) : ¬ (1 : Int32) < 0 ∧ (1 : Int32) < Int32.ofNat lN := ⟨by decide, (own_lk (k := 1) hl (by omega)).mpr h⟩
theorem own_gd' (cs : List Int32) (j : Nat) : (cs.map Value.int).getD j (.int 0) = .int (cs.getD j 0) := by
  simp only [List.getD_eq_getElem?_getD, List.getElem?_map]
  cases cs[j]? <;> rfl
theorem own_gd (cs : List Int32) {i : Nat} (h : i < 4) : (cs.map Value.int).getD (Int32.ofNat i).toNatClampNeg (.int 0) = .int (cs.getD i 0) := by
  rw [own_ci (by omega)]
  exact own_gd' cs i
theorem own_k4 {n : Nat} (h : n < 4) : ¬ Int32.ofNat n < 0 ∧ Int32.ofNat n < 4 := by
  rw [Int32.lt_iff_toInt_lt, Int32.lt_iff_toInt_lt, own_ti (by omega), show (0 : Int32).toInt = 0 from rfl, show (4 : Int32).toInt = 4 from rfl]
  omega
theorem own_u (cs : List Int32) {fN lN k : Nat} (h : k < lN) : (own_us (cs.map Value.int) fN lN).getD k (.int 0) = .int (cs.getD (fN + k) 0) := by
  rw [← own_gd' cs (fN + k)]
  unfold own_us
  rw [List.getD_eq_getElem?_getD, List.getElem?_map, List.getElem?_range h]
  rfl
theorem own_u0 (cs : List Int32) {fN lN : Nat} (h : 0 < lN) : (own_us (cs.map Value.int) fN lN).getD (0 : Int32).toNatClampNeg (.int 0) = .int (cs.getD fN 0) := own_u cs h
theorem own_u1 (cs : List Int32) {fN lN : Nat} (h : 1 < lN) : (own_us (cs.map Value.int) fN lN).getD (1 : Int32).toNatClampNeg (.int 0) = .int (cs.getD (fN + 1) 0) := own_u cs h
theorem own_narb (x : Int32) : nar .byte (nar .byte x) = nar .byte x := by
  show x.toInt8.toInt32.toInt8.toInt32 = x.toInt8.toInt32
  simp
theorem own_draw (p q r t : Int32) : nar .byte (f1_0 p q r t) = f1_0 p q r t := by
  unfold f1_0
  repeat' split
  all_goals exact own_narb _
theorem own_fv (p2 fv : Int32) (h : fv = (p2 &&& (1 : Int32))) : ∃ n : Nat, fv = Int32.ofNat n ∧ n ≤ 1 := by
  have m := c_mask p2 1 1 (by decide) (by decide)
  simp only [Nat.reducePow, Int.cast_ofNat_Int] at m
  rw [← h] at m
  exact own_nat (by omega) (by omega)
theorem own_lv (p2 lv : Int32) (h : lv = (((p2.toUInt32 >>> ((1 : Int32) &&& 31).toUInt32).toInt32) &&& (3 : Int32))) : ∃ n : Nat, lv = Int32.ofNat n ∧ n ≤ 3 := by
  have m := c_mask ((p2.toUInt32 >>> ((1 : Int32) &&& 31).toUInt32).toInt32) 3 2 (by decide) (by decide)
  simp only [Nat.reducePow, Int.cast_ofNat_Int] at m
  rw [← h] at m
  exact own_nat (by omega) (by omega)
theorem own_pv (p3 pv : Int32) (h : pv = (p3 &&& (1 : Int32))) : pv = 0 ∨ pv = 1 := by
  rw [h]
  exact and_one p3
theorem own_law0 {lN : Nat} {d0 d1 v1 v2 v3 : Int32} (hl : lN ≤ 3) (h1 : v1 = (if (0 : Int32) < (Int32.ofNat lN) then (if d0 = (31 : Int32) then (0 : Int32) else (1 : Int32)) else (0 : Int32))) (h2 : v2 = (if v1 = (0 : Int32) then (0 : Int32) else (if (1 : Int32) < (Int32.ofNat lN) then (if d1 = (31 : Int32) then (0 : Int32) else (1 : Int32)) else (0 : Int32)))) (h3 : v3 = (if v1 = (0 : Int32) then (-1 : Int32) else (d0 &&& (255 : Int32)))) : own_ind lN d0 d1 0 = v3 := by
  have k0 : ((0 : Int32) < Int32.ofNat lN) ↔ 0 < lN := own_lk (k := 0) hl (by omega)
  have d10 : ¬ (1 : Int32) = 0 := by decide
  unfold own_ind
  subst h3 h1
  by_cases a : lN = 0
  · have : ¬ (0 : Int32) < Int32.ofNat lN := fun q => by have := k0.mp q; omega
    rw [if_pos a, if_neg this, if_pos rfl]
  · have : (0 : Int32) < Int32.ofNat lN := k0.mpr (by omega)
    rw [if_neg a, if_pos this]
    by_cases b : d0 = 31
    · rw [if_pos b, if_pos b, if_pos rfl]
    · rw [if_neg b, if_neg b, if_pos rfl, if_neg d10]
theorem own_law1 {lN : Nat} {d0 d1 v1 v2 v3 : Int32} (hl : lN ≤ 3) (h1 : v1 = (if (0 : Int32) < (Int32.ofNat lN) then (if d0 = (31 : Int32) then (0 : Int32) else (1 : Int32)) else (0 : Int32))) (h2 : v2 = (if v1 = (0 : Int32) then (0 : Int32) else (if (1 : Int32) < (Int32.ofNat lN) then (if d1 = (31 : Int32) then (0 : Int32) else (1 : Int32)) else (0 : Int32)))) (h3 : v3 = (if v2 = (0 : Int32) then (-1 : Int32) else (d1 &&& (255 : Int32)))) : own_ind lN d0 d1 1 = v3 := by
  have k0 : ((0 : Int32) < Int32.ofNat lN) ↔ 0 < lN := own_lk (k := 0) hl (by omega)
  have k1 : ((1 : Int32) < Int32.ofNat lN) ↔ 1 < lN := own_lk (k := 1) hl (by omega)
  have d10 : ¬ (1 : Int32) = 0 := by decide
  unfold own_ind
  subst h3 h2 h1
  by_cases a : lN = 0
  · have : ¬ (0 : Int32) < Int32.ofNat lN := fun q => by have := k0.mp q; omega
    rw [if_pos a, if_neg this, if_pos rfl, if_pos rfl]
  · have : (0 : Int32) < Int32.ofNat lN := k0.mpr (by omega)
    rw [if_neg a, if_pos this]
    by_cases b : d0 = 31
    · rw [if_pos b, if_pos b, if_pos rfl, if_pos rfl]
    · rw [if_neg b, if_neg b, if_neg d10, if_neg d10]
      by_cases c : lN = 1
      · have : ¬ (1 : Int32) < Int32.ofNat lN := fun q => by have := k1.mp q; omega
        rw [if_pos c, if_neg this, if_pos rfl]
      · have : (1 : Int32) < Int32.ofNat lN := k1.mpr (by omega)
        rw [if_neg c, if_pos this]
        by_cases g : d1 = 31
        · rw [if_pos g, if_pos g, if_pos rfl]
        · rw [if_neg g, if_neg g, if_neg d10]

def own_Qc (h0 : Heap) : Option Value → Heap → Prop := fun v h => v = none ∧ h = h0
abbrev own_r6 : Room := { frames := 0, cells := 0, slots := 0, locals := 0 }
theorem d6_0 : decode jdk_65_method_131_code 0 = .ok (.iload_n 1, 1) := by decide +kernel
theorem d6_1 : decode jdk_65_method_131_code 1 = .ok (.iload_n 0, 1) := by decide +kernel
theorem d6_2 : decode jdk_65_method_131_code 2 = .ok (.if_icmp .ge 35, 3) := by decide +kernel
theorem d6_37 : decode jdk_65_method_131_code 37 = .ok (.return_, 1) := by decide +kernel
theorem ef_6 (m : MethodId) (p0 : Int32) (p1 : Int32) : entryFrame m #[(.int p0), (.int p1)] 2 = mkF m 0 #[.val (.int p0), .val (.int p1)] [] := by first | (simp [entryFrame, mkF, argsToLocals, Value.category]; done) | rfl
set_option maxRecDepth 65536 in
set_option maxHeartbeats 40000000 in
theorem rm6 (l : Launch) (Z : State) (a0 : Array Value) (hw : ∀ d ∈ tables_1, d.before a0 Z = true) (p0 p1 : Int32) (h0 : Heap) (n0 : Nat) (hge : ¬ p1 < p0) : own_Con [] l Z (⟨"java/util/Arrays", "checkLength", "(II)V"⟩ : MethodName) jdk_65_method_131_code 2 none own_r6 n0 #[(.int p0), (.int p1)] h0 (own_Qc h0) := by
  refine own_body (plainFor_of_name (by first | (simp [plainName, overriddenIn]; done) | decide +kernel)) (fun m => mkF m 0 #[.val (.int p0), .val (.int p1)] []) (fun m => ef_6 m p0 p1) ?_
  intro p e s m below meth c s₁ hx hby hml hown hnm hZ hret hlk X0 e0 N0
  refine own_go (T' := s₁) (g' := (mkF m 2 #[.val (.int p0), .val (.int p1)] [(.int p0), (.int p1)])) (fun t k => ?_) ?_
  · show Steps p.tables e below (s₁.setTop (mkF m 0 #[.val (.int p0), .val (.int p1)] [])) t
    refine XS.iloadN X0.here hx rfl (hb hby d6_0) rfl ?_
    show Steps p.tables e below (s₁.setTop (mkF m 1 #[.val (.int p0), .val (.int p1)] [(.int p1)])) _
    refine XS.iloadN X0.here hx rfl (hb hby d6_1) rfl ?_
    show Steps p.tables e below (s₁.setTop (mkF m 2 #[.val (.int p0), .val (.int p1)] [(.int p0), (.int p1)])) _
    exact k
  refine own_go (T' := s₁) (g' := (mkF m 37 #[.val (.int p0), .val (.int p1)] [])) (fun t k => ?_) ?_
  · show Steps p.tables e below (s₁.setTop (mkF m 2 #[.val (.int p0), .val (.int p1)] [(.int p0), (.int p1)])) t
    refine XS.icmpYes X0.here hx rfl (pc0 := 2) (pc' := 37) rfl (hb hby d6_2) rfl (flt hge).2.1 (by decide) (by decide) ?_
    show Steps p.tables e below (s₁.setTop (mkF m 37 #[.val (.int p0), .val (.int p1)] [])) _
    exact k
  exact own_retV X0 hx hlk hret (hb hby d6_37) (by decide) (by decide) N0 ⟨rfl, e0⟩
abbrev own_r5 : Room := { frames := 1, cells := 1, slots := 3, locals := 40 }
theorem d5_0 : decode jdk_65_method_133_code 0 = .ok (.iload_n 1, 1) := by decide +kernel
theorem d5_1 : decode jdk_65_method_133_code 1 = .ok (.iload_n 2, 1) := by decide +kernel
theorem d5_2 : decode jdk_65_method_133_code 2 = .ok (.invokestatic 343, 3) := by decide +kernel
theorem pd_0 : parseMethodDescriptor "(II)V" = some ⟨[.int, .int], none⟩ := by decide +kernel
theorem d5_5 : decode jdk_65_method_133_code 5 = .ok (.iload_n 2, 1) := by decide +kernel
theorem d5_6 : decode jdk_65_method_133_code 6 = .ok (.iload_n 1, 1) := by decide +kernel
theorem d5_7 : decode jdk_65_method_133_code 7 = .ok (.isub, 1) := by decide +kernel
theorem d5_8 : decode jdk_65_method_133_code 8 = .ok (.istore_n 3, 1) := by decide +kernel
theorem d5_9 : decode jdk_65_method_133_code 9 = .ok (.iload_n 3, 1) := by decide +kernel
theorem d5_10 : decode jdk_65_method_133_code 10 = .ok (.newarray .byte, 2) := by decide +kernel
theorem d5_12 : decode jdk_65_method_133_code 12 = .ok (.astore 4, 2) := by decide +kernel
theorem d5_14 : decode jdk_65_method_133_code 14 = .ok (.aload_n 0, 1) := by decide +kernel
theorem d5_15 : decode jdk_65_method_133_code 15 = .ok (.iload_n 1, 1) := by decide +kernel
theorem d5_16 : decode jdk_65_method_133_code 16 = .ok (.aload 4, 2) := by decide +kernel
theorem d5_18 : decode jdk_65_method_133_code 18 = .ok (.iconst 0, 1) := by decide +kernel
theorem d5_19 : decode jdk_65_method_133_code 19 = .ok (.aload_n 0, 1) := by decide +kernel
theorem d5_20 : decode jdk_65_method_133_code 20 = .ok (.arraylength, 1) := by decide +kernel
theorem d5_21 : decode jdk_65_method_133_code 21 = .ok (.iload_n 1, 1) := by decide +kernel
theorem d5_22 : decode jdk_65_method_133_code 22 = .ok (.isub, 1) := by decide +kernel
theorem d5_23 : decode jdk_65_method_133_code 23 = .ok (.iload_n 3, 1) := by decide +kernel
theorem d5_24 : decode jdk_65_method_133_code 24 = .ok (.invokestatic 304, 3) := by decide +kernel
theorem pd_1 : parseMethodDescriptor "(II)I" = some ⟨[.int, .int], some .int⟩ := by decide +kernel
theorem d5_27 : decode jdk_65_method_133_code 27 = .ok (.invokestatic 150, 3) := by decide +kernel
theorem d5_30 : decode jdk_65_method_133_code 30 = .ok (.aload 4, 2) := by decide +kernel
theorem d5_32 : decode jdk_65_method_133_code 32 = .ok (.areturn, 1) := by decide +kernel
theorem ef_5 (m : MethodId) (r0 : Addr) (p1 : Int32) (p2 : Int32) : entryFrame m #[(.ref r0), (.int p1), (.int p2)] 5 = mkF m 0 #[.val (.ref r0), .val (.int p1), .val (.int p2), .unset, .unset] [] := by first | (simp [entryFrame, mkF, argsToLocals, Value.category]; done) | rfl
set_option maxRecDepth 65536 in
set_option maxHeartbeats 40000000 in
theorem rm5 (l : Launch) (Z : State) (a0 : Array Value) (hw : ∀ d ∈ tables_1, d.before a0 Z = true) (r0 : Addr) (p1 p2 : Int32) (k : ClassId) (vs : List Value) (fN lN : Nat) (h0 : Heap) (n0 : Nat) (Z0 : n0 ≤ h0.size) (V0 : Arv Z h0 r0 k .byte (4 : Int32) vs (.int 0)) (hp1 : p1 = Int32.ofNat fN) (hp2 : p2 = Int32.ofNat (fN + lN)) (hf : fN ≤ 1) (hl : lN ≤ 3) : own_Con [] l Z (⟨"java/util/Arrays", "copyOfRangeByte", "([BII)[B"⟩ : MethodName) jdk_65_method_133_code 5 (some (.array .byte)) own_r5 n0 #[(.ref r0), (.int p1), (.int p2)] h0 (own_Qr Z n0 (own_us vs fN lN) lN h0) := by
  refine own_body (plainFor_of_name (by first | (simp [plainName, overriddenIn]; done) | decide +kernel)) (fun m => mkF m 0 #[.val (.ref r0), .val (.int p1), .val (.int p2), .unset, .unset] []) (fun m => ef_5 m r0 p1 p2) ?_
  intro p e s m below meth c s₁ hx hby hml hown hnm hZ hret hlk X0 e0 N0
  have K0 := Keep.refl h0 []
  subst hp1 hp2
  refine own_go (T' := s₁) (g' := (mkF m 2 #[.val (.ref r0), .val (.int (Int32.ofNat fN)), .val (.int (Int32.ofNat (fN + lN))), .unset, .unset] [(.int (Int32.ofNat (fN + lN))), (.int (Int32.ofNat fN))])) (fun t k => ?_) ?_
  · show Steps p.tables e below (s₁.setTop (mkF m 0 #[.val (.ref r0), .val (.int (Int32.ofNat fN)), .val (.int (Int32.ofNat (fN + lN))), .unset, .unset] [])) t
    refine XS.iloadN X0.here hx rfl (hb hby d5_0) rfl ?_
    show Steps p.tables e below (s₁.setTop (mkF m 1 #[.val (.ref r0), .val (.int (Int32.ofNat fN)), .val (.int (Int32.ofNat (fN + lN))), .unset, .unset] [(.int (Int32.ofNat fN))])) _
    refine XS.iloadN X0.here hx rfl (hb hby d5_1) rfl ?_
    show Steps p.tables e below (s₁.setTop (mkF m 2 #[.val (.ref r0), .val (.int (Int32.ofNat fN)), .val (.int (Int32.ofNat (fN + lN))), .unset, .unset] [(.int (Int32.ofNat (fN + lN))), (.int (Int32.ofNat fN))])) _
    exact k
  obtain ⟨_, T1, L1, X1, N1, ⟨rfl, e1⟩, st1⟩ := own_callS X0 hx hZ hown (hw _ (List.mem_of_getElem? (i := 30) rfl)) (hw _ (List.mem_of_getElem? (i := 31) rfl)) (hw _ (List.mem_of_getElem? (i := 25) rfl)) (hw _ (List.mem_of_getElem? (i := 32) rfl)) (by decide) (argsL := [(.int (Int32.ofNat fN)), (.int (Int32.ofNat (fN + lN)))]) (rest := []) (rm6 l Z a0 hw (Int32.ofNat fN) (Int32.ofNat (fN + lN)) h0 n0 (own_ge hf hl)) (W := 0) (by decide) (by decide) (g := (mkF m 2 #[.val (.ref r0), .val (.int (Int32.ofNat fN)), .val (.int (Int32.ofNat (fN + lN))), .unset, .unset] [(.int (Int32.ofNat (fN + lN))), (.int (Int32.ofNat fN))])) rfl (by rw [hml]; rfl) pd_0 rfl rfl (by show 2 * 0 + _ ≤ _; exact Nat.le_of_eq rfl) (hb hby d5_2) e0 (by decide) (by decide) N0
  refine own_go (T' := T1) (g' := (mkF m 5 #[.val (.ref r0), .val (.int (Int32.ofNat fN)), .val (.int (Int32.ofNat (fN + lN))), .unset, .unset] [])) st1 ?_
  refine own_go (T' := T1) (g' := (mkF m 8 #[.val (.ref r0), .val (.int (Int32.ofNat fN)), .val (.int (Int32.ofNat (fN + lN))), .unset, .unset] [(.int ((Int32.ofNat (fN + lN)) - (Int32.ofNat fN)))])) (fun t k => ?_) ?_
  · show Steps p.tables e below (T1.setTop (mkF m 5 #[.val (.ref r0), .val (.int (Int32.ofNat fN)), .val (.int (Int32.ofNat (fN + lN))), .unset, .unset] [])) t
    refine XS.iloadN X1.here hx rfl (hb hby d5_5) rfl ?_
    show Steps p.tables e below (T1.setTop (mkF m 6 #[.val (.ref r0), .val (.int (Int32.ofNat fN)), .val (.int (Int32.ofNat (fN + lN))), .unset, .unset] [(.int (Int32.ofNat (fN + lN)))])) _
    refine XS.iloadN X1.here hx rfl (hb hby d5_6) rfl ?_
    show Steps p.tables e below (T1.setTop (mkF m 7 #[.val (.ref r0), .val (.int (Int32.ofNat fN)), .val (.int (Int32.ofNat (fN + lN))), .unset, .unset] [(.int (Int32.ofNat fN)), (.int (Int32.ofNat (fN + lN)))])) _
    refine XS.isub X1.here hx rfl (hb hby d5_7) rfl ?_
    show Steps p.tables e below (T1.setTop (mkF m 8 #[.val (.ref r0), .val (.int (Int32.ofNat fN)), .val (.int (Int32.ofNat (fN + lN))), .unset, .unset] [(.int ((Int32.ofNat (fN + lN)) - (Int32.ofNat fN)))])) _
    exact k
  rw [own_len1 hf hl]
  refine own_go (T' := T1) (g' := (mkF m 10 #[.val (.ref r0), .val (.int (Int32.ofNat fN)), .val (.int (Int32.ofNat (fN + lN))), .val (.int (Int32.ofNat lN)), .unset] [(.int (Int32.ofNat lN))])) (fun t k => ?_) ?_
  · show Steps p.tables e below (T1.setTop (mkF m 8 #[.val (.ref r0), .val (.int (Int32.ofNat fN)), .val (.int (Int32.ofNat (fN + lN))), .unset, .unset] [(.int (Int32.ofNat lN))])) t
    refine XS.istoreN X1.here hx rfl (hb hby d5_8) rfl (l' := #[.val (.ref r0), .val (.int (Int32.ofNat fN)), .val (.int (Int32.ofNat (fN + lN))), .val (.int (Int32.ofNat lN)), .unset]) rfl ?_
    show Steps p.tables e below (T1.setTop (mkF m 9 #[.val (.ref r0), .val (.int (Int32.ofNat fN)), .val (.int (Int32.ofNat (fN + lN))), .val (.int (Int32.ofNat lN)), .unset] [])) _
    refine XS.iloadN X1.here hx rfl (hb hby d5_9) rfl ?_
    show Steps p.tables e below (T1.setTop (mkF m 10 #[.val (.ref r0), .val (.int (Int32.ofNat fN)), .val (.int (Int32.ofNat (fN + lN))), .val (.int (Int32.ofNat lN)), .unset] [(.int (Int32.ofNat lN))])) _
    exact k
  obtain ⟨T2, h2, k2, b2, g2, X2, e2, E2, A2, st2⟩ := own_new X1 hx hZ (hw _ (List.mem_of_getElem? (i := 0) rfl)) e1 (g := (mkF m 10 #[.val (.ref r0), .val (.int (Int32.ofNat fN)), .val (.int (Int32.ofNat (fN + lN))), .val (.int (Int32.ofNat lN)), .unset] [(.int (Int32.ofNat lN))])) rfl (hb hby d5_10) rfl (own_nn hl) (cap := 3) (own_cap hl) (by decide) (by decide) (by decide)
  have lt_r0_b2 : r0 < b2 := Nat.lt_of_lt_of_le V0.lt (Nat.le_of_eq g2.symm)
  have ga_b2 : n0 ≤ b2 := Nat.le_trans Z0 (Nat.le_of_eq g2.symm)
  have sz_2 := Nat.le_trans Z0 E2.1
  have hx_b2 := Nat.le_trans K0.1 (Nat.le_of_eq g2.symm)
  have K2 := K0.ext E2
  have V_r0_2 := V0.ext E2
  have V_b2_2 : Arv Z h2 b2 k2 .byte (Int32.ofNat lN) [] (.int (0 : Int32)) := A2
  refine own_go (T' := T2) (g' := (mkF m 12 #[.val (.ref r0), .val (.int (Int32.ofNat fN)), .val (.int (Int32.ofNat (fN + lN))), .val (.int (Int32.ofNat lN)), .unset] [(.ref b2)])) st2 ?_
  refine own_go (T' := T2) (g' := (mkF m 24 #[.val (.ref r0), .val (.int (Int32.ofNat fN)), .val (.int (Int32.ofNat (fN + lN))), .val (.int (Int32.ofNat lN)), .val (.ref b2)] [(.int (Int32.ofNat lN)), (.int ((4 : Int32) - (Int32.ofNat fN))), (.int (0 : Int32)), (.ref b2), (.int (Int32.ofNat fN)), (.ref r0)])) (fun t k => ?_) ?_
  · show Steps p.tables e below (T2.setTop (mkF m 12 #[.val (.ref r0), .val (.int (Int32.ofNat fN)), .val (.int (Int32.ofNat (fN + lN))), .val (.int (Int32.ofNat lN)), .unset] [(.ref b2)])) t
    refine XS.astore X2.here hx rfl (hb hby d5_12) rfl rfl (l' := #[.val (.ref r0), .val (.int (Int32.ofNat fN)), .val (.int (Int32.ofNat (fN + lN))), .val (.int (Int32.ofNat lN)), .val (.ref b2)]) rfl ?_
    show Steps p.tables e below (T2.setTop (mkF m 14 #[.val (.ref r0), .val (.int (Int32.ofNat fN)), .val (.int (Int32.ofNat (fN + lN))), .val (.int (Int32.ofNat lN)), .val (.ref b2)] [])) _
    refine XS.aloadN X2.here hx rfl (hb hby d5_14) rfl rfl ?_
    show Steps p.tables e below (T2.setTop (mkF m 15 #[.val (.ref r0), .val (.int (Int32.ofNat fN)), .val (.int (Int32.ofNat (fN + lN))), .val (.int (Int32.ofNat lN)), .val (.ref b2)] [(.ref r0)])) _
    refine XS.iloadN X2.here hx rfl (hb hby d5_15) rfl ?_
    show Steps p.tables e below (T2.setTop (mkF m 16 #[.val (.ref r0), .val (.int (Int32.ofNat fN)), .val (.int (Int32.ofNat (fN + lN))), .val (.int (Int32.ofNat lN)), .val (.ref b2)] [(.int (Int32.ofNat fN)), (.ref r0)])) _
    refine XS.aload X2.here hx rfl (hb hby d5_16) rfl rfl ?_
    show Steps p.tables e below (T2.setTop (mkF m 18 #[.val (.ref r0), .val (.int (Int32.ofNat fN)), .val (.int (Int32.ofNat (fN + lN))), .val (.int (Int32.ofNat lN)), .val (.ref b2)] [(.ref b2), (.int (Int32.ofNat fN)), (.ref r0)])) _
    refine XS.iconst X2.here hx rfl (hb hby d5_18) ?_
    show Steps p.tables e below (T2.setTop (mkF m 19 #[.val (.ref r0), .val (.int (Int32.ofNat fN)), .val (.int (Int32.ofNat (fN + lN))), .val (.int (Int32.ofNat lN)), .val (.ref b2)] [(.int (0 : Int32)), (.ref b2), (.int (Int32.ofNat fN)), (.ref r0)])) _
    refine XS.aloadN X2.here hx rfl (hb hby d5_19) rfl rfl ?_
    show Steps p.tables e below (T2.setTop (mkF m 20 #[.val (.ref r0), .val (.int (Int32.ofNat fN)), .val (.int (Int32.ofNat (fN + lN))), .val (.int (Int32.ofNat lN)), .val (.ref b2)] [(.ref r0), (.int (0 : Int32)), (.ref b2), (.int (Int32.ofNat fN)), (.ref r0)])) _
    refine own_len X2 hx hZ e2 V_r0_2 (g := (mkF m 20 #[.val (.ref r0), .val (.int (Int32.ofNat fN)), .val (.int (Int32.ofNat (fN + lN))), .val (.int (Int32.ofNat lN)), .val (.ref b2)] [(.ref r0), (.int (0 : Int32)), (.ref b2), (.int (Int32.ofNat fN)), (.ref r0)])) rfl rfl (hb hby d5_20) _ ?_
    show Steps p.tables e below (T2.setTop (mkF m 21 #[.val (.ref r0), .val (.int (Int32.ofNat fN)), .val (.int (Int32.ofNat (fN + lN))), .val (.int (Int32.ofNat lN)), .val (.ref b2)] [(.int (4 : Int32)), (.int (0 : Int32)), (.ref b2), (.int (Int32.ofNat fN)), (.ref r0)])) _
    refine XS.iloadN X2.here hx rfl (hb hby d5_21) rfl ?_
    show Steps p.tables e below (T2.setTop (mkF m 22 #[.val (.ref r0), .val (.int (Int32.ofNat fN)), .val (.int (Int32.ofNat (fN + lN))), .val (.int (Int32.ofNat lN)), .val (.ref b2)] [(.int (Int32.ofNat fN)), (.int (4 : Int32)), (.int (0 : Int32)), (.ref b2), (.int (Int32.ofNat fN)), (.ref r0)])) _
    refine XS.isub X2.here hx rfl (hb hby d5_22) rfl ?_
    show Steps p.tables e below (T2.setTop (mkF m 23 #[.val (.ref r0), .val (.int (Int32.ofNat fN)), .val (.int (Int32.ofNat (fN + lN))), .val (.int (Int32.ofNat lN)), .val (.ref b2)] [(.int ((4 : Int32) - (Int32.ofNat fN))), (.int (0 : Int32)), (.ref b2), (.int (Int32.ofNat fN)), (.ref r0)])) _
    refine XS.iloadN X2.here hx rfl (hb hby d5_23) rfl ?_
    show Steps p.tables e below (T2.setTop (mkF m 24 #[.val (.ref r0), .val (.int (Int32.ofNat fN)), .val (.int (Int32.ofNat (fN + lN))), .val (.int (Int32.ofNat lN)), .val (.ref b2)] [(.int (Int32.ofNat lN)), (.int ((4 : Int32) - (Int32.ofNat fN))), (.int (0 : Int32)), (.ref b2), (.int (Int32.ofNat fN)), (.ref r0)])) _
    exact k
  obtain ⟨_, T3, L3, X3, N3, ⟨rfl, e3⟩, st3⟩ := own_callS X2 hx hZ hown (hw _ (List.mem_of_getElem? (i := 33) rfl)) (hw _ (List.mem_of_getElem? (i := 34) rfl)) (hw _ (List.mem_of_getElem? (i := 35) rfl)) (hw _ (List.mem_of_getElem? (i := 36) rfl)) (by decide) (argsL := [(.int ((4 : Int32) - (Int32.ofNat fN))), (.int (Int32.ofNat lN))]) (rest := [(.int (0 : Int32)), (.ref b2), (.int (Int32.ofNat fN)), (.ref r0)]) (rm7 l Z a0 hw ((4 : Int32) - (Int32.ofNat fN)) (Int32.ofNat lN) h2 n0) (W := 4) (by decide) (by decide) (g := (mkF m 24 #[.val (.ref r0), .val (.int (Int32.ofNat fN)), .val (.int (Int32.ofNat (fN + lN))), .val (.int (Int32.ofNat lN)), .val (.ref b2)] [(.int (Int32.ofNat lN)), (.int ((4 : Int32) - (Int32.ofNat fN))), (.int (0 : Int32)), (.ref b2), (.int (Int32.ofNat fN)), (.ref r0)])) rfl (by rw [hml]; rfl) pd_1 rfl rfl (by show 2 * 0 + _ ≤ _; exact Nat.le_of_eq rfl) (hb hby d5_24) e2 (by decide) (by decide) N1
  refine own_go (T' := T3) (g' := (mkF m 27 #[.val (.ref r0), .val (.int (Int32.ofNat fN)), .val (.int (Int32.ofNat (fN + lN))), .val (.int (Int32.ofNat lN)), .val (.ref b2)] [(.int (f7_0 ((4 : Int32) - (Int32.ofNat fN)) (Int32.ofNat lN))), (.int (0 : Int32)), (.ref b2), (.int (Int32.ofNat fN)), (.ref r0)])) st3 ?_
  rw [own_mn hf hl]
  have V5 : Arv Z h2 b2 k2 .byte (Int32.ofNat lN) (List.replicate lN (.int 0)) (.int 0) := V_b2_2.pad (pad_rep [] (.int 0) lN)
  obtain ⟨T4, h4, L4, X4, e4, N4, K4, V4, st4⟩ := cpA X3 hx hZ hown (hw _ (List.mem_of_getElem? (i := 37) rfl)) (hw _ (List.mem_of_getElem? (i := 40) rfl)) (hw _ (List.mem_of_getElem? (i := 38) rfl)) (hw _ (List.mem_of_getElem? (i := 39) rfl)) e3 V_r0_2 V5 (Or.inl ⟨rfl, rfl⟩) (sp := Int32.ofNat fN) (dp := 0) (nn := Int32.ofNat lN) (us := own_us vs fN lN) (own_n0 (by omega)) (by decide) (own_n0 (by omega)) (own_b1 hf hl) (own_b2 hl) (own_hus hf hl) (own_b3 hl) N3 ga_b2 (g := (mkF m 27 #[.val (.ref r0), .val (.int (Int32.ofNat fN)), .val (.int (Int32.ofNat (fN + lN))), .val (.int (Int32.ofNat lN)), .val (.ref b2)] [(.int (Int32.ofNat lN)), (.int (0 : Int32)), (.ref b2), (.int (Int32.ofNat fN)), (.ref r0)])) rfl (by rw [hml]; rfl) (rest := []) rfl (hb hby d5_27) (by decide) (W := 0) (by show 2 * 0 + _ ≤ _; exact Nat.le_of_eq rfl) (by decide)
  rw [own_cp hl] at V4
  have KK := Keep.trans K2 K4 (allS (Or.inr hx_b2) all0)
  refine own_go (T' := T4) (g' := (mkF m 30 #[.val (.ref r0), .val (.int (Int32.ofNat fN)), .val (.int (Int32.ofNat (fN + lN))), .val (.int (Int32.ofNat lN)), .val (.ref b2)] [])) st4 ?_
  refine own_go (T' := T4) (g' := (mkF m 32 #[.val (.ref r0), .val (.int (Int32.ofNat fN)), .val (.int (Int32.ofNat (fN + lN))), .val (.int (Int32.ofNat lN)), .val (.ref b2)] [(.ref b2)])) (fun t k => ?_) ?_
  · show Steps p.tables e below (T4.setTop (mkF m 30 #[.val (.ref r0), .val (.int (Int32.ofNat fN)), .val (.int (Int32.ofNat (fN + lN))), .val (.int (Int32.ofNat lN)), .val (.ref b2)] [])) t
    refine XS.aload X4.here hx rfl (hb hby d5_30) rfl rfl ?_
    show Steps p.tables e below (T4.setTop (mkF m 32 #[.val (.ref r0), .val (.int (Int32.ofNat fN)), .val (.int (Int32.ofNat (fN + lN))), .val (.int (Int32.ofNat lN)), .val (.ref b2)] [(.ref b2)])) _
    exact k
  exact own_retA X4 hx hlk hret rfl rfl (hb hby d5_32) (by decide) (by decide) N4 (by rw [e4]; exact ⟨b2, k2, rfl, ga_b2, hx_b2, KK, V4⟩)
abbrev own_r4 : Room := { frames := 2, cells := 1, slots := 3, locals := 56 }
theorem d4_0 : decode jdk_65_method_132_code 0 = .ok (.iload_n 1, 1) := by decide +kernel
theorem d4_1 : decode jdk_65_method_132_code 1 = .ok (.ifCond .ne 9, 3) := by decide +kernel
theorem d4_4 : decode jdk_65_method_132_code 4 = .ok (.iload_n 2, 1) := by decide +kernel
theorem d4_5 : decode jdk_65_method_132_code 5 = .ok (.aload_n 0, 1) := by decide +kernel
theorem d4_6 : decode jdk_65_method_132_code 6 = .ok (.arraylength, 1) := by decide +kernel
theorem d4_7 : decode jdk_65_method_132_code 7 = .ok (.if_icmp .eq 10, 3) := by decide +kernel
theorem d4_10 : decode jdk_65_method_132_code 10 = .ok (.aload_n 0, 1) := by decide +kernel
theorem d4_11 : decode jdk_65_method_132_code 11 = .ok (.iload_n 1, 1) := by decide +kernel
theorem d4_12 : decode jdk_65_method_132_code 12 = .ok (.iload_n 2, 1) := by decide +kernel
theorem d4_13 : decode jdk_65_method_132_code 13 = .ok (.invokestatic 339, 3) := by decide +kernel
theorem pd_2 : parseMethodDescriptor "([BII)[B" = some ⟨[(.array .byte), .int, .int], some (.array .byte)⟩ := by decide +kernel
theorem d4_16 : decode jdk_65_method_132_code 16 = .ok (.areturn, 1) := by decide +kernel
theorem ef_4 (m : MethodId) (r0 : Addr) (p1 : Int32) (p2 : Int32) : entryFrame m #[(.ref r0), (.int p1), (.int p2)] 3 = mkF m 0 #[.val (.ref r0), .val (.int p1), .val (.int p2)] [] := by first | (simp [entryFrame, mkF, argsToLocals, Value.category]; done) | rfl
set_option maxRecDepth 65536 in
set_option maxHeartbeats 40000000 in
theorem rm4 (l : Launch) (Z : State) (a0 : Array Value) (hw : ∀ d ∈ tables_1, d.before a0 Z = true) (r0 : Addr) (p1 p2 : Int32) (k : ClassId) (vs : List Value) (fN lN : Nat) (h0 : Heap) (n0 : Nat) (Z0 : n0 ≤ h0.size) (V0 : Arv Z h0 r0 k .byte (4 : Int32) vs (.int 0)) (hp1 : p1 = Int32.ofNat fN) (hp2 : p2 = Int32.ofNat (fN + lN)) (hf : fN ≤ 1) (hl : lN ≤ 3) : own_Con [] l Z (⟨"java/util/Arrays", "copyOfRange", "([BII)[B"⟩ : MethodName) jdk_65_method_132_code 3 (some (.array .byte)) own_r4 n0 #[(.ref r0), (.int p1), (.int p2)] h0 (own_Qr Z n0 (own_us vs fN lN) lN h0) := by
  refine own_body (plainFor_of_name (by first | (simp [plainName, overriddenIn]; done) | decide +kernel)) (fun m => mkF m 0 #[.val (.ref r0), .val (.int p1), .val (.int p2)] []) (fun m => ef_4 m r0 p1 p2) ?_
  intro p e s m below meth c s₁ hx hby hml hown hnm hZ hret hlk X0 e0 N0
  refine own_go (T' := s₁) (g' := (mkF m 1 #[.val (.ref r0), .val (.int p1), .val (.int p2)] [(.int p1)])) (fun t k => ?_) ?_
  · show Steps p.tables e below (s₁.setTop (mkF m 0 #[.val (.ref r0), .val (.int p1), .val (.int p2)] [])) t
    refine XS.iloadN X0.here hx rfl (hb hby d4_0) rfl ?_
    show Steps p.tables e below (s₁.setTop (mkF m 1 #[.val (.ref r0), .val (.int p1), .val (.int p2)] [(.int p1)])) _
    exact k
  by_cases hc1_1 : p1 = (0 : Int32)
  · refine own_go (T' := s₁) (g' := (mkF m 4 #[.val (.ref r0), .val (.int p1), .val (.int p2)] [])) (fun t k => ?_) ?_
    · refine XS.ifNo X0.here hx rfl (hb hby d4_1) rfl ((if0 _ _).trans (teq hc1_1).2) ?_
      exact k
    refine own_go (T' := s₁) (g' := (mkF m 7 #[.val (.ref r0), .val (.int p1), .val (.int p2)] [(.int (4 : Int32)), (.int p2)])) (fun t k => ?_) ?_
    · show Steps p.tables e below (s₁.setTop (mkF m 4 #[.val (.ref r0), .val (.int p1), .val (.int p2)] [])) t
      refine XS.iloadN X0.here hx rfl (hb hby d4_4) rfl ?_
      show Steps p.tables e below (s₁.setTop (mkF m 5 #[.val (.ref r0), .val (.int p1), .val (.int p2)] [(.int p2)])) _
      refine XS.aloadN X0.here hx rfl (hb hby d4_5) rfl rfl ?_
      show Steps p.tables e below (s₁.setTop (mkF m 6 #[.val (.ref r0), .val (.int p1), .val (.int p2)] [(.ref r0), (.int p2)])) _
      refine own_len X0 hx hZ e0 V0 (g := (mkF m 6 #[.val (.ref r0), .val (.int p1), .val (.int p2)] [(.ref r0), (.int p2)])) rfl rfl (hb hby d4_6) _ ?_
      show Steps p.tables e below (s₁.setTop (mkF m 7 #[.val (.ref r0), .val (.int p1), .val (.int p2)] [(.int (4 : Int32)), (.int p2)])) _
      exact k
    refine own_go (T' := s₁) (g' := (mkF m 13 #[.val (.ref r0), .val (.int p1), .val (.int p2)] [(.int p2), (.int p1), (.ref r0)])) (fun t k => ?_) ?_
    · show Steps p.tables e below (s₁.setTop (mkF m 7 #[.val (.ref r0), .val (.int p1), .val (.int p2)] [(.int (4 : Int32)), (.int p2)])) t
      refine XS.icmpNo X0.here hx rfl (hb hby d4_7) rfl (feq (own_n4 hp2 hf hl (own_z hp1 hf hc1_1))).1 ?_
      show Steps p.tables e below (s₁.setTop (mkF m 10 #[.val (.ref r0), .val (.int p1), .val (.int p2)] [])) _
      refine XS.aloadN X0.here hx rfl (hb hby d4_10) rfl rfl ?_
      show Steps p.tables e below (s₁.setTop (mkF m 11 #[.val (.ref r0), .val (.int p1), .val (.int p2)] [(.ref r0)])) _
      refine XS.iloadN X0.here hx rfl (hb hby d4_11) rfl ?_
      show Steps p.tables e below (s₁.setTop (mkF m 12 #[.val (.ref r0), .val (.int p1), .val (.int p2)] [(.int p1), (.ref r0)])) _
      refine XS.iloadN X0.here hx rfl (hb hby d4_12) rfl ?_
      show Steps p.tables e below (s₁.setTop (mkF m 13 #[.val (.ref r0), .val (.int p1), .val (.int p2)] [(.int p2), (.int p1), (.ref r0)])) _
      exact k
    obtain ⟨_, T2, L2, X2, N2, ⟨bq, kq, rfl, hQ2⟩, st2⟩ := own_callS X0 hx hZ hown (hw _ (List.mem_of_getElem? (i := 27) rfl)) (hw _ (List.mem_of_getElem? (i := 28) rfl)) (hw _ (List.mem_of_getElem? (i := 25) rfl)) (hw _ (List.mem_of_getElem? (i := 29) rfl)) (by decide) (argsL := [(.ref r0), (.int p1), (.int p2)]) (rest := []) (rm5 l Z a0 hw r0 p1 p2 k vs fN lN h0 n0 Z0 V0 hp1 hp2 hf hl) (W := 0) (by decide) (by decide) (g := (mkF m 13 #[.val (.ref r0), .val (.int p1), .val (.int p2)] [(.int p2), (.int p1), (.ref r0)])) rfl (by rw [hml]; rfl) pd_2 rfl rfl (by show 2 * 0 + _ ≤ _; exact Nat.le_of_eq rfl) (hb hby d4_13) e0 (by decide) (by decide) N0
    refine own_go (T' := T2) (g' := (mkF m 16 #[.val (.ref r0), .val (.int p1), .val (.int p2)] [(.ref bq)])) st2 ?_
    exact own_retA X2 hx hlk hret rfl rfl (hb hby d4_16) (by decide) (by decide) N2 ⟨bq, kq, rfl, hQ2⟩
  · refine own_go (T' := s₁) (g' := (mkF m 10 #[.val (.ref r0), .val (.int p1), .val (.int p2)] [])) (fun t k => ?_) ?_
    · refine XS.ifYes X0.here hx rfl (pc0 := 1) (pc' := 10) rfl (hb hby d4_1) rfl ((if0 _ _).trans (feq hc1_1).2) (by decide) (by decide) ?_
      exact k
    refine own_go (T' := s₁) (g' := (mkF m 13 #[.val (.ref r0), .val (.int p1), .val (.int p2)] [(.int p2), (.int p1), (.ref r0)])) (fun t k => ?_) ?_
    · show Steps p.tables e below (s₁.setTop (mkF m 10 #[.val (.ref r0), .val (.int p1), .val (.int p2)] [])) t
      refine XS.aloadN X0.here hx rfl (hb hby d4_10) rfl rfl ?_
      show Steps p.tables e below (s₁.setTop (mkF m 11 #[.val (.ref r0), .val (.int p1), .val (.int p2)] [(.ref r0)])) _
      refine XS.iloadN X0.here hx rfl (hb hby d4_11) rfl ?_
      show Steps p.tables e below (s₁.setTop (mkF m 12 #[.val (.ref r0), .val (.int p1), .val (.int p2)] [(.int p1), (.ref r0)])) _
      refine XS.iloadN X0.here hx rfl (hb hby d4_12) rfl ?_
      show Steps p.tables e below (s₁.setTop (mkF m 13 #[.val (.ref r0), .val (.int p1), .val (.int p2)] [(.int p2), (.int p1), (.ref r0)])) _
      exact k
    obtain ⟨_, T3, L3, X3, N3, ⟨bq, kq, rfl, hQ3⟩, st3⟩ := own_callS X0 hx hZ hown (hw _ (List.mem_of_getElem? (i := 27) rfl)) (hw _ (List.mem_of_getElem? (i := 28) rfl)) (hw _ (List.mem_of_getElem? (i := 25) rfl)) (hw _ (List.mem_of_getElem? (i := 29) rfl)) (by decide) (argsL := [(.ref r0), (.int p1), (.int p2)]) (rest := []) (rm5 l Z a0 hw r0 p1 p2 k vs fN lN h0 n0 Z0 V0 hp1 hp2 hf hl) (W := 0) (by decide) (by decide) (g := (mkF m 13 #[.val (.ref r0), .val (.int p1), .val (.int p2)] [(.int p2), (.int p1), (.ref r0)])) rfl (by rw [hml]; rfl) pd_2 rfl rfl (by show 2 * 0 + _ ≤ _; exact Nat.le_of_eq rfl) (hb hby d4_13) e0 (by decide) (by decide) N0
    refine own_go (T' := T3) (g' := (mkF m 16 #[.val (.ref r0), .val (.int p1), .val (.int p2)] [(.ref bq)])) st3 ?_
    exact own_retA X3 hx hlk hret rfl rfl (hb hby d4_16) (by decide) (by decide) N3 ⟨bq, kq, rfl, hQ3⟩
abbrev own_r2 : Room := { frames := 3, cells := 1, slots := 3, locals := 71 }
theorem d2_0 : decode prog_43_method_1_code 0 = .ok (.aload_n 0, 1) := by decide +kernel
theorem d2_1 : decode prog_43_method_1_code 1 = .ok (.invokespecial 3, 3) := by decide +kernel
theorem d2_4 : decode prog_43_method_1_code 4 = .ok (.aload_n 0, 1) := by decide +kernel
theorem d2_5 : decode prog_43_method_1_code 5 = .ok (.aload_n 1, 1) := by decide +kernel
theorem d2_6 : decode prog_43_method_1_code 6 = .ok (.putfield 9, 3) := by decide +kernel
theorem d2_9 : decode prog_43_method_1_code 9 = .ok (.aload_n 0, 1) := by decide +kernel
theorem d2_10 : decode prog_43_method_1_code 10 = .ok (.aload_n 2, 1) := by decide +kernel
theorem d2_11 : decode prog_43_method_1_code 11 = .ok (.iload_n 3, 1) := by decide +kernel
theorem d2_12 : decode prog_43_method_1_code 12 = .ok (.iload 4, 2) := by decide +kernel
theorem d2_14 : decode prog_43_method_1_code 14 = .ok (.invokestatic 15, 3) := by decide +kernel
theorem d2_17 : decode prog_43_method_1_code 17 = .ok (.putfield 21, 3) := by decide +kernel
theorem d2_20 : decode prog_43_method_1_code 20 = .ok (.return_, 1) := by decide +kernel
theorem ef_2 (m : MethodId) (a : Addr) (r0 : Addr) (r1 : Addr) (p2 : Int32) (p3 : Int32) : entryFrame m #[(.ref a), (.ref r0), (.ref r1), (.int p2), (.int p3)] 5 = mkF m 0 #[.val (.ref a), .val (.ref r0), .val (.ref r1), .val (.int p2), .val (.int p3)] [] := by first | (simp [entryFrame, mkF, argsToLocals, Value.category]; done) | rfl
set_option maxRecDepth 65536 in
set_option maxHeartbeats 40000000 in
theorem rm2 (l : Launch) (Z : State) (a0 : Array Value) (hw : ∀ d ∈ tables_1, d.before a0 Z = true) (a r0 r1 : Addr) (p2 p3 : Int32) (k : ClassId) (vs : List Value) (fN lN : Nat) (h0 : Heap) (n0 : Nat) (Z0 : n0 ≤ h0.size) (ga_a : n0 ≤ a) (V0 : Arv Z h0 r1 k .byte (4 : Int32) vs (.int 0)) (lt_r : r1 < a) (E0 : Exa Z h0 a "com/example/encabeza/encabeza/model/Field") (F0_tag : Fld Z h0 a "com/example/encabeza/encabeza/model/Field" "tag" "Ljava/lang/String;" .null) (F0_data : Fld Z h0 a "com/example/encabeza/encabeza/model/Field" "data" "[B" .null) (hp1 : p2 = Int32.ofNat fN) (hp2 : p3 = Int32.ofNat (fN + lN)) (hf : fN ≤ 1) (hl : lN ≤ 3) : own_Con [] l Z (⟨"com/example/encabeza/encabeza/model/Field", "<init>", "(Ljava/lang/String;[BII)V"⟩ : MethodName) prog_43_method_1_code 5 none own_r2 n0 #[(.ref a), (.ref r0), (.ref r1), (.int p2), (.int p3)] h0 (own_Qf Z n0 a (own_us vs fN lN) lN h0) := by
  refine own_body (plainFor_of_name (by first | (simp [plainName, overriddenIn]; done) | decide +kernel)) (fun m => mkF m 0 #[.val (.ref a), .val (.ref r0), .val (.ref r1), .val (.int p2), .val (.int p3)] []) (fun m => ef_2 m a r0 r1 p2 p3) ?_
  intro p e s m below meth c s₁ hx hby hml hown hnm hZ hret hlk X0 e0 N0
  have K0 := Keep.refl h0 [a]
  refine own_go (T' := s₁) (g' := (mkF m 1 #[.val (.ref a), .val (.ref r0), .val (.ref r1), .val (.int p2), .val (.int p3)] [(.ref a)])) (fun t k => ?_) ?_
  · show Steps p.tables e below (s₁.setTop (mkF m 0 #[.val (.ref a), .val (.ref r0), .val (.ref r1), .val (.int p2), .val (.int p3)] [])) t
    refine XS.aloadN X0.here hx rfl (hb hby d2_0) rfl rfl ?_
    show Steps p.tables e below (s₁.setTop (mkF m 1 #[.val (.ref a), .val (.ref r0), .val (.ref r1), .val (.int p2), .val (.int p3)] [(.ref a)])) _
    exact k
  obtain ⟨T1, X1, e1, st1⟩ := initO X0 hx hZ hown (hw _ (List.mem_of_getElem? (i := 18) rfl)) (hw _ (List.mem_of_getElem? (i := 19) rfl)) (hw _ (List.mem_of_getElem? (i := 20) rfl)) e0 (g := (mkF m 1 #[.val (.ref a), .val (.ref r0), .val (.ref r1), .val (.int p2), .val (.int p3)] [(.ref a)])) rfl (by rw [hml]; rfl) rfl (hb hby d2_1) (by decide) (W := 0) (by show 2 * 0 + _ ≤ _; exact Nat.le_of_eq rfl) (by decide)
  refine own_go (T' := T1) (g' := (mkF m 4 #[.val (.ref a), .val (.ref r0), .val (.ref r1), .val (.int p2), .val (.int p3)] [])) st1 ?_
  refine own_go (T' := T1) (g' := (mkF m 6 #[.val (.ref a), .val (.ref r0), .val (.ref r1), .val (.int p2), .val (.int p3)] [(.ref r0), (.ref a)])) (fun t k => ?_) ?_
  · show Steps p.tables e below (T1.setTop (mkF m 4 #[.val (.ref a), .val (.ref r0), .val (.ref r1), .val (.int p2), .val (.int p3)] [])) t
    refine XS.aloadN X1.here hx rfl (hb hby d2_4) rfl rfl ?_
    show Steps p.tables e below (T1.setTop (mkF m 5 #[.val (.ref a), .val (.ref r0), .val (.ref r1), .val (.int p2), .val (.int p3)] [(.ref a)])) _
    refine XS.aloadN X1.here hx rfl (hb hby d2_5) rfl rfl ?_
    show Steps p.tables e below (T1.setTop (mkF m 6 #[.val (.ref a), .val (.ref r0), .val (.ref r1), .val (.int p2), .val (.int p3)] [(.ref r0), (.ref a)])) _
    exact k
  obtain ⟨T2, h2, X2, e2, W2, st2⟩ := putF X1 hx hZ hown (host := "") (Or.inl (hw _ (List.mem_of_getElem? (i := 21) rfl))) Via.refl e1 F0_tag E0 (Or.inr ⟨(hw _ (List.mem_of_getElem? (i := 22) rfl)), rfl, hnm⟩) (hw _ (List.mem_of_getElem? (i := 6) rfl)) (ty := (.object "java/lang/String")) (by decide) rfl rfl (g := (mkF m 6 #[.val (.ref a), .val (.ref r0), .val (.ref r1), .val (.int p2), .val (.int p3)] [(.ref r0), (.ref a)])) rfl rfl (hb hby d2_6)
  have V_r1_2 := V0.other W2 (Nat.ne_of_lt lt_r)
  have E_a_2 := Exa.wr W2 E0
  have F_a_data_2 := Fld.other W2 F0_data (Or.inr (slot_ne (Or.inr (hw _ (List.mem_of_getElem? (i := 42) rfl))) (Or.inr (hw _ (List.mem_of_getElem? (i := 22) rfl))) (by decide) (t := (.array .byte)) (t' := (.object "java/lang/String")) (by decide) (by decide)))
  have K2 := K0.wr W2 (Or.inl (List.mem_of_getElem? (i := 0) rfl))
  have F_a_tag_2 : Fld Z h2 a "com/example/encabeza/encabeza/model/Field" "tag" "Ljava/lang/String;" (.ref r0) := Fld.same W2 F0_tag
  have N2 := Fr.snoc X2 N0 ga_a
  have sz_2 := Nat.le_trans Z0 (Nat.le_of_eq (Wr.size W2).symm)
  refine own_go (T' := T2) (g' := (mkF m 9 #[.val (.ref a), .val (.ref r0), .val (.ref r1), .val (.int p2), .val (.int p3)] [])) st2 ?_
  refine own_go (T' := T2) (g' := (mkF m 14 #[.val (.ref a), .val (.ref r0), .val (.ref r1), .val (.int p2), .val (.int p3)] [(.int p3), (.int p2), (.ref r1), (.ref a)])) (fun t k => ?_) ?_
  · show Steps p.tables e below (T2.setTop (mkF m 9 #[.val (.ref a), .val (.ref r0), .val (.ref r1), .val (.int p2), .val (.int p3)] [])) t
    refine XS.aloadN X2.here hx rfl (hb hby d2_9) rfl rfl ?_
    show Steps p.tables e below (T2.setTop (mkF m 10 #[.val (.ref a), .val (.ref r0), .val (.ref r1), .val (.int p2), .val (.int p3)] [(.ref a)])) _
    refine XS.aloadN X2.here hx rfl (hb hby d2_10) rfl rfl ?_
    show Steps p.tables e below (T2.setTop (mkF m 11 #[.val (.ref a), .val (.ref r0), .val (.ref r1), .val (.int p2), .val (.int p3)] [(.ref r1), (.ref a)])) _
    refine XS.iloadN X2.here hx rfl (hb hby d2_11) rfl ?_
    show Steps p.tables e below (T2.setTop (mkF m 12 #[.val (.ref a), .val (.ref r0), .val (.ref r1), .val (.int p2), .val (.int p3)] [(.int p2), (.ref r1), (.ref a)])) _
    refine XS.iload X2.here hx rfl (hb hby d2_12) rfl ?_
    show Steps p.tables e below (T2.setTop (mkF m 14 #[.val (.ref a), .val (.ref r0), .val (.ref r1), .val (.int p2), .val (.int p3)] [(.int p3), (.int p2), (.ref r1), (.ref a)])) _
    exact k
  obtain ⟨_, T3, L3, X3, N3, ⟨bq, kq, rfl, gq, sq, K3, V3⟩, st3⟩ := own_callS X2 hx hZ hown (hw _ (List.mem_of_getElem? (i := 23) rfl)) (hw _ (List.mem_of_getElem? (i := 24) rfl)) (hw _ (List.mem_of_getElem? (i := 25) rfl)) (hw _ (List.mem_of_getElem? (i := 26) rfl)) (by decide) (argsL := [(.ref r1), (.int p2), (.int p3)]) (rest := [(.ref a)]) (rm4 l Z a0 hw r1 p2 p3 k vs fN lN h2 n0 sz_2 V_r1_2 hp1 hp2 hf hl) (W := 1) (by decide) (by decide) (g := (mkF m 14 #[.val (.ref a), .val (.ref r0), .val (.ref r1), .val (.int p2), .val (.int p3)] [(.int p3), (.int p2), (.ref r1), (.ref a)])) rfl (by rw [hml]; rfl) pd_2 rfl rfl (by show 2 * 0 + _ ≤ _; exact Nat.le_of_eq rfl) (hb hby d2_14) e2 (by decide) (by decide) N2
  have lt_a_bq : a < bq := Nat.lt_of_lt_of_le E_a_2.lt sq
  have V_r1_3 := V_r1_2.keep K3 nin0
  have E_a_3 := Exa.keep E_a_2 K3
  have F_a_tag_3 := Fld.keep F_a_tag_2 K3 nin0
  have F_a_data_3 := Fld.keep F_a_data_2 K3 nin0
  have sz_3 := Nat.le_trans sz_2 K3.1
  have K3 := Keep.trans K2 K3 all0
  have lt_r1_bq : r1 < bq := Nat.lt_trans lt_r lt_a_bq
  refine own_go (T' := T3) (g' := (mkF m 17 #[.val (.ref a), .val (.ref r0), .val (.ref r1), .val (.int p2), .val (.int p3)] [(.ref bq), (.ref a)])) st3 ?_
  obtain ⟨T4, h4, X4, e4, W4, st4⟩ := putF X3 hx hZ hown (host := "") (Or.inl (hw _ (List.mem_of_getElem? (i := 41) rfl))) Via.refl rfl F_a_data_3 E_a_3 (Or.inr ⟨(hw _ (List.mem_of_getElem? (i := 42) rfl)), rfl, hnm⟩) (hw _ (List.mem_of_getElem? (i := 6) rfl)) (ty := (.array .byte)) (by decide) rfl rfl (g := (mkF m 17 #[.val (.ref a), .val (.ref r0), .val (.ref r1), .val (.int p2), .val (.int p3)] [(.ref bq), (.ref a)])) rfl rfl (hb hby d2_17)
  have V_r1_4 := V_r1_3.other W4 (Nat.ne_of_lt lt_r)
  have V_bq_4 := V3.other W4 (Nat.ne_of_gt lt_a_bq)
  have E_a_4 := Exa.wr W4 E_a_3
  have F_a_tag_4 := Fld.other W4 F_a_tag_3 (Or.inr (slot_ne (Or.inr (hw _ (List.mem_of_getElem? (i := 22) rfl))) (Or.inr (hw _ (List.mem_of_getElem? (i := 42) rfl))) (by decide) (t := (.object "java/lang/String")) (t' := (.array .byte)) (by decide) (by decide)))
  have K4 := K3.wr W4 (Or.inl (List.mem_of_getElem? (i := 0) rfl))
  have F_a_data_4 : Fld Z h4 a "com/example/encabeza/encabeza/model/Field" "data" "[B" (.ref bq) := Fld.same W4 F_a_data_3
  have N4 := Fr.snoc X4 N3 ga_a
  have sz_4 := Nat.le_trans sz_3 (Nat.le_of_eq (Wr.size W4).symm)
  refine own_go (T' := T4) (g' := (mkF m 20 #[.val (.ref a), .val (.ref r0), .val (.ref r1), .val (.int p2), .val (.int p3)] [])) st4 ?_
  exact own_retV X4 hx hlk hret (hb hby d2_20) (by decide) (by decide) N4 (by rw [e4]; exact ⟨rfl, K4, E_a_4, bq, kq, F_a_data_4, V_bq_4⟩)
abbrev own_r8 : Room := { frames := 0, cells := 0, slots := 0, locals := 0 }
theorem d8_0 : decode prog_43_method_9_code 0 = .ok (.iconst 0, 1) := by decide +kernel
theorem d8_1 : decode prog_43_method_9_code 1 = .ok (.istore_n 2, 1) := by decide +kernel
theorem d8_2 : decode prog_43_method_9_code 2 = .ok (.iload_n 2, 1) := by decide +kernel
theorem d8_3 : decode prog_43_method_9_code 3 = .ok (.iload_n 1, 1) := by decide +kernel
theorem d8_4 : decode prog_43_method_9_code 4 = .ok (.if_icmp .gt 31, 3) := by decide +kernel
theorem d8_7 : decode prog_43_method_9_code 7 = .ok (.iload_n 2, 1) := by decide +kernel
theorem d8_8 : decode prog_43_method_9_code 8 = .ok (.aload_n 0, 1) := by decide +kernel
theorem d8_9 : decode prog_43_method_9_code 9 = .ok (.getfield 21, 3) := by decide +kernel
theorem d8_12 : decode prog_43_method_9_code 12 = .ok (.arraylength, 1) := by decide +kernel
theorem d8_13 : decode prog_43_method_9_code 13 = .ok (.if_icmp .eq 14, 3) := by decide +kernel
theorem d8_27 : decode prog_43_method_9_code 27 = .ok (.iconst (-1), 1) := by decide +kernel
theorem d8_28 : decode prog_43_method_9_code 28 = .ok (.ireturn, 1) := by decide +kernel
theorem d8_16 : decode prog_43_method_9_code 16 = .ok (.aload_n 0, 1) := by decide +kernel
theorem d8_17 : decode prog_43_method_9_code 17 = .ok (.getfield 21, 3) := by decide +kernel
theorem d8_20 : decode prog_43_method_9_code 20 = .ok (.iload_n 2, 1) := by decide +kernel
theorem d8_21 : decode prog_43_method_9_code 21 = .ok (.baload, 1) := by decide +kernel
theorem d8_22 : decode prog_43_method_9_code 22 = .ok (.bipush 31, 2) := by decide +kernel
theorem d8_24 : decode prog_43_method_9_code 24 = .ok (.if_icmp .ne 5, 3) := by decide +kernel
theorem d8_29 : decode prog_43_method_9_code 29 = .ok (.iinc 2 1, 3) := by decide +kernel
theorem d8_32 : decode prog_43_method_9_code 32 = .ok (.goto (-30), 3) := by decide +kernel
theorem d8_35 : decode prog_43_method_9_code 35 = .ok (.aload_n 0, 1) := by decide +kernel
theorem d8_36 : decode prog_43_method_9_code 36 = .ok (.getfield 21, 3) := by decide +kernel
theorem d8_39 : decode prog_43_method_9_code 39 = .ok (.iload_n 1, 1) := by decide +kernel
theorem d8_40 : decode prog_43_method_9_code 40 = .ok (.baload, 1) := by decide +kernel
theorem d8_41 : decode prog_43_method_9_code 41 = .ok (.sipush 255, 3) := by decide +kernel
theorem d8_44 : decode prog_43_method_9_code 44 = .ok (.iand, 1) := by decide +kernel
theorem d8_45 : decode prog_43_method_9_code 45 = .ok (.ireturn, 1) := by decide +kernel
theorem ef_8 (m : MethodId) (a : Addr) (p0 : Int32) : entryFrame m #[(.ref a), (.int p0)] 3 = mkF m 0 #[.val (.ref a), .val (.int p0), .unset] [] := by first | (simp [entryFrame, mkF, argsToLocals, Value.category]; done) | rfl
set_option maxRecDepth 65536 in
set_option maxHeartbeats 40000000 in
theorem rm8_0 (l : Launch) (Z : State) (a0 : Array Value) (hw : ∀ d ∈ tables_1, d.before a0 Z = true) (a : Addr) (p0 : Int32) (bq : Addr) (kq : ClassId) (us : List Value) (lN : Nat) (u0 u1 : Int32) (h0 : Heap) (n0 : Nat) (E0 : Exa Z h0 a "com/example/encabeza/encabeza/model/Field") (F0 : Fld Z h0 a "com/example/encabeza/encabeza/model/Field" "data" "[B" (.ref bq)) (V0 : Arv Z h0 bq kq .byte (Int32.ofNat lN) us (.int 0)) (hp : p0 = (0 : Int32)) (hl : lN ≤ 3) (hv0 : 0 < lN → us.getD (0 : Int32).toNatClampNeg (.int 0) = .int u0) (hv1 : 1 < lN → us.getD (1 : Int32).toNatClampNeg (.int 0) = .int u1) : own_Con [] l Z (⟨"com/example/encabeza/encabeza/model/Field", "indicator", "(I)I"⟩ : MethodName) prog_43_method_9_code 3 (some .int) own_r8 n0 #[(.ref a), (.int p0)] h0 (own_P (.int (own_ind lN u0 u1 0)) h0) := by
  refine own_body (plainFor_of_name (by first | (simp [plainName, overriddenIn]; done) | decide +kernel)) (fun m => mkF m 0 #[.val (.ref a), .val (.int p0), .unset] []) (fun m => ef_8 m a p0) ?_
  intro p e s m below meth c s₁ hx hby hml hown hnm hZ hret hlk X0 e0 N0
  subst hp
  refine own_go (T' := s₁) (g' := (mkF m 9 #[.val (.ref a), .val (.int (0 : Int32)), .val (.int (0 : Int32))] [(.ref a), (.int (0 : Int32))])) (fun t k => ?_) ?_
  · show Steps p.tables e below (s₁.setTop (mkF m 0 #[.val (.ref a), .val (.int (0 : Int32)), .unset] [])) t
    refine XS.iconst X0.here hx rfl (hb hby d8_0) ?_
    show Steps p.tables e below (s₁.setTop (mkF m 1 #[.val (.ref a), .val (.int (0 : Int32)), .unset] [(.int (0 : Int32))])) _
    refine XS.istoreN X0.here hx rfl (hb hby d8_1) rfl (l' := #[.val (.ref a), .val (.int (0 : Int32)), .val (.int (0 : Int32))]) rfl ?_
    show Steps p.tables e below (s₁.setTop (mkF m 2 #[.val (.ref a), .val (.int (0 : Int32)), .val (.int (0 : Int32))] [])) _
    refine XS.iloadN X0.here hx rfl (hb hby d8_2) rfl ?_
    show Steps p.tables e below (s₁.setTop (mkF m 3 #[.val (.ref a), .val (.int (0 : Int32)), .val (.int (0 : Int32))] [(.int (0 : Int32))])) _
    refine XS.iloadN X0.here hx rfl (hb hby d8_3) rfl ?_
    show Steps p.tables e below (s₁.setTop (mkF m 4 #[.val (.ref a), .val (.int (0 : Int32)), .val (.int (0 : Int32))] [(.int (0 : Int32)), (.int (0 : Int32))])) _
    refine XS.icmpNo X0.here hx rfl (hb hby d8_4) rfl (flt (by decide)).2.2.1 ?_
    show Steps p.tables e below (s₁.setTop (mkF m 7 #[.val (.ref a), .val (.int (0 : Int32)), .val (.int (0 : Int32))] [])) _
    refine XS.iloadN X0.here hx rfl (hb hby d8_7) rfl ?_
    show Steps p.tables e below (s₁.setTop (mkF m 8 #[.val (.ref a), .val (.int (0 : Int32)), .val (.int (0 : Int32))] [(.int (0 : Int32))])) _
    refine XS.aloadN X0.here hx rfl (hb hby d8_8) rfl rfl ?_
    show Steps p.tables e below (s₁.setTop (mkF m 9 #[.val (.ref a), .val (.int (0 : Int32)), .val (.int (0 : Int32))] [(.ref a), (.int (0 : Int32))])) _
    exact k
  obtain ⟨T1, X1, e1, st1⟩ := getF X0 hx hZ hown (host := "") (Or.inl (hw _ (List.mem_of_getElem? (i := 41) rfl))) Via.refl e0 F0 (g := (mkF m 9 #[.val (.ref a), .val (.int (0 : Int32)), .val (.int (0 : Int32))] [(.ref a), (.int (0 : Int32))])) rfl rfl (hb hby d8_9)
  refine own_go (T' := T1) (g' := (mkF m 12 #[.val (.ref a), .val (.int (0 : Int32)), .val (.int (0 : Int32))] [(.ref bq), (.int (0 : Int32))])) st1 ?_
  refine own_go (T' := T1) (g' := (mkF m 13 #[.val (.ref a), .val (.int (0 : Int32)), .val (.int (0 : Int32))] [(.int (Int32.ofNat lN)), (.int (0 : Int32))])) (fun t k => ?_) ?_
  · show Steps p.tables e below (T1.setTop (mkF m 12 #[.val (.ref a), .val (.int (0 : Int32)), .val (.int (0 : Int32))] [(.ref bq), (.int (0 : Int32))])) t
    refine own_len X1 hx hZ e1 V0 (g := (mkF m 12 #[.val (.ref a), .val (.int (0 : Int32)), .val (.int (0 : Int32))] [(.ref bq), (.int (0 : Int32))])) rfl rfl (hb hby d8_12) _ ?_
    show Steps p.tables e below (T1.setTop (mkF m 13 #[.val (.ref a), .val (.int (0 : Int32)), .val (.int (0 : Int32))] [(.int (Int32.ofNat lN)), (.int (0 : Int32))])) _
    exact k
  by_cases hc13_2 : (0 : Int32) = (Int32.ofNat lN)
  · refine own_go (T' := T1) (g' := (mkF m 27 #[.val (.ref a), .val (.int (0 : Int32)), .val (.int (0 : Int32))] [])) (fun t k => ?_) ?_
    · refine XS.icmpYes X1.here hx rfl (pc0 := 13) (pc' := 27) rfl (hb hby d8_13) rfl (teq hc13_2).1 (by decide) (by decide) ?_
      exact k
    refine own_go (T' := T1) (g' := (mkF m 28 #[.val (.ref a), .val (.int (0 : Int32)), .val (.int (0 : Int32))] [(.int (-1 : Int32))])) (fun t k => ?_) ?_
    · show Steps p.tables e below (T1.setTop (mkF m 27 #[.val (.ref a), .val (.int (0 : Int32)), .val (.int (0 : Int32))] [])) t
      refine XS.iconst X1.here hx rfl (hb hby d8_27) ?_
      show Steps p.tables e below (T1.setTop (mkF m 28 #[.val (.ref a), .val (.int (0 : Int32)), .val (.int (0 : Int32))] [(.int (-1 : Int32))])) _
      exact k
    exact own_retI X1 hx hlk hret (hb hby d8_28) (by decide) (by decide) N0 ⟨by unfold own_ind; rw [if_pos (own_eq0 (by omega) hc13_2)], e1⟩
  · refine own_go (T' := T1) (g' := (mkF m 16 #[.val (.ref a), .val (.int (0 : Int32)), .val (.int (0 : Int32))] [])) (fun t k => ?_) ?_
    · refine XS.icmpNo X1.here hx rfl (hb hby d8_13) rfl (feq hc13_2).1 ?_
      exact k
    refine own_go (T' := T1) (g' := (mkF m 17 #[.val (.ref a), .val (.int (0 : Int32)), .val (.int (0 : Int32))] [(.ref a)])) (fun t k => ?_) ?_
    · show Steps p.tables e below (T1.setTop (mkF m 16 #[.val (.ref a), .val (.int (0 : Int32)), .val (.int (0 : Int32))] [])) t
      refine XS.aloadN X1.here hx rfl (hb hby d8_16) rfl rfl ?_
      show Steps p.tables e below (T1.setTop (mkF m 17 #[.val (.ref a), .val (.int (0 : Int32)), .val (.int (0 : Int32))] [(.ref a)])) _
      exact k
    obtain ⟨T3, X3, e3, st3⟩ := getF X1 hx hZ hown (host := "") (Or.inl (hw _ (List.mem_of_getElem? (i := 41) rfl))) Via.refl e1 F0 (g := (mkF m 17 #[.val (.ref a), .val (.int (0 : Int32)), .val (.int (0 : Int32))] [(.ref a)])) rfl rfl (hb hby d8_17)
    refine own_go (T' := T3) (g' := (mkF m 20 #[.val (.ref a), .val (.int (0 : Int32)), .val (.int (0 : Int32))] [(.ref bq)])) st3 ?_
    refine own_go (T' := T3) (g' := (mkF m 24 #[.val (.ref a), .val (.int (0 : Int32)), .val (.int (0 : Int32))] [(.int (31 : Int32)), (.int u0)])) (fun t k => ?_) ?_
    · show Steps p.tables e below (T3.setTop (mkF m 20 #[.val (.ref a), .val (.int (0 : Int32)), .val (.int (0 : Int32))] [(.ref bq)])) t
      refine XS.iloadN X3.here hx rfl (hb hby d8_20) rfl ?_
      show Steps p.tables e below (T3.setTop (mkF m 21 #[.val (.ref a), .val (.int (0 : Int32)), .val (.int (0 : Int32))] [(.int (0 : Int32)), (.ref bq)])) _
      refine own_ldB X3 hx hZ e3 V0 (j := (0 : Int32)) (own_ui0 hl (own_in0 hl (own_neq0 (by omega) hc13_2))) (v := (.int u0)) (hv0 (own_in0 hl (own_neq0 (by omega) hc13_2))) (g := (mkF m 21 #[.val (.ref a), .val (.int (0 : Int32)), .val (.int (0 : Int32))] [(.int (0 : Int32)), (.ref bq)])) rfl rfl (hb hby d8_21) _ ?_
      show Steps p.tables e below (T3.setTop (mkF m 22 #[.val (.ref a), .val (.int (0 : Int32)), .val (.int (0 : Int32))] [(.int u0)])) _
      refine XS.bipush X3.here hx rfl (hb hby d8_22) ?_
      show Steps p.tables e below (T3.setTop (mkF m 24 #[.val (.ref a), .val (.int (0 : Int32)), .val (.int (0 : Int32))] [(.int (31 : Int32)), (.int u0)])) _
      exact k
    by_cases hc24_4 : u0 = (31 : Int32)
    · refine own_go (T' := T3) (g' := (mkF m 27 #[.val (.ref a), .val (.int (0 : Int32)), .val (.int (0 : Int32))] [])) (fun t k => ?_) ?_
      · refine XS.icmpNo X3.here hx rfl (hb hby d8_24) rfl (teq hc24_4).2 ?_
        exact k
      refine own_go (T' := T3) (g' := (mkF m 28 #[.val (.ref a), .val (.int (0 : Int32)), .val (.int (0 : Int32))] [(.int (-1 : Int32))])) (fun t k => ?_) ?_
      · show Steps p.tables e below (T3.setTop (mkF m 27 #[.val (.ref a), .val (.int (0 : Int32)), .val (.int (0 : Int32))] [])) t
        refine XS.iconst X3.here hx rfl (hb hby d8_27) ?_
        show Steps p.tables e below (T3.setTop (mkF m 28 #[.val (.ref a), .val (.int (0 : Int32)), .val (.int (0 : Int32))] [(.int (-1 : Int32))])) _
        exact k
      exact own_retI X3 hx hlk hret (hb hby d8_28) (by decide) (by decide) N0 ⟨by unfold own_ind; rw [if_neg (own_neq0 (by omega) hc13_2), if_pos hc24_4], e3⟩
    · refine own_go (T' := T3) (g' := (mkF m 29 #[.val (.ref a), .val (.int (0 : Int32)), .val (.int (0 : Int32))] [])) (fun t k => ?_) ?_
      · refine XS.icmpYes X3.here hx rfl (pc0 := 24) (pc' := 29) rfl (hb hby d8_24) rfl (feq hc24_4).2 (by decide) (by decide) ?_
        exact k
      refine own_go (T' := T3) (g' := (mkF m 36 #[.val (.ref a), .val (.int (0 : Int32)), .val (.int (1 : Int32))] [(.ref a)])) (fun t k => ?_) ?_
      · show Steps p.tables e below (T3.setTop (mkF m 29 #[.val (.ref a), .val (.int (0 : Int32)), .val (.int (0 : Int32))] [])) t
        refine XS.iinc X3.here hx rfl (hb hby d8_29) rfl (l' := #[.val (.ref a), .val (.int (0 : Int32)), .val (.int (1 : Int32))]) rfl ?_
        show Steps p.tables e below (T3.setTop (mkF m 32 #[.val (.ref a), .val (.int (0 : Int32)), .val (.int (1 : Int32))] [])) _
        refine XS.goto X3.here hx rfl (pc0 := 32) (pc' := 2) rfl (hb hby d8_32) (by decide) (by decide) ?_
        show Steps p.tables e below (T3.setTop (mkF m 2 #[.val (.ref a), .val (.int (0 : Int32)), .val (.int (1 : Int32))] [])) _
        refine XS.iloadN X3.here hx rfl (hb hby d8_2) rfl ?_
        show Steps p.tables e below (T3.setTop (mkF m 3 #[.val (.ref a), .val (.int (0 : Int32)), .val (.int (1 : Int32))] [(.int (1 : Int32))])) _
        refine XS.iloadN X3.here hx rfl (hb hby d8_3) rfl ?_
        show Steps p.tables e below (T3.setTop (mkF m 4 #[.val (.ref a), .val (.int (0 : Int32)), .val (.int (1 : Int32))] [(.int (0 : Int32)), (.int (1 : Int32))])) _
        refine XS.icmpYes X3.here hx rfl (pc0 := 4) (pc' := 35) rfl (hb hby d8_4) rfl (tlt (by decide)).2.2.1 (by decide) (by decide) ?_
        show Steps p.tables e below (T3.setTop (mkF m 35 #[.val (.ref a), .val (.int (0 : Int32)), .val (.int (1 : Int32))] [])) _
        refine XS.aloadN X3.here hx rfl (hb hby d8_35) rfl rfl ?_
        show Steps p.tables e below (T3.setTop (mkF m 36 #[.val (.ref a), .val (.int (0 : Int32)), .val (.int (1 : Int32))] [(.ref a)])) _
        exact k
      obtain ⟨T5, X5, e5, st5⟩ := getF X3 hx hZ hown (host := "") (Or.inl (hw _ (List.mem_of_getElem? (i := 41) rfl))) Via.refl e3 F0 (g := (mkF m 36 #[.val (.ref a), .val (.int (0 : Int32)), .val (.int (1 : Int32))] [(.ref a)])) rfl rfl (hb hby d8_36)
      refine own_go (T' := T5) (g' := (mkF m 39 #[.val (.ref a), .val (.int (0 : Int32)), .val (.int (1 : Int32))] [(.ref bq)])) st5 ?_
      refine own_go (T' := T5) (g' := (mkF m 45 #[.val (.ref a), .val (.int (0 : Int32)), .val (.int (1 : Int32))] [(.int (u0 &&& (255 : Int32)))])) (fun t k => ?_) ?_
      · show Steps p.tables e below (T5.setTop (mkF m 39 #[.val (.ref a), .val (.int (0 : Int32)), .val (.int (1 : Int32))] [(.ref bq)])) t
        refine XS.iloadN X5.here hx rfl (hb hby d8_39) rfl ?_
        show Steps p.tables e below (T5.setTop (mkF m 40 #[.val (.ref a), .val (.int (0 : Int32)), .val (.int (1 : Int32))] [(.int (0 : Int32)), (.ref bq)])) _
        refine own_ldB X5 hx hZ e5 V0 (j := (0 : Int32)) (own_ui0 hl (own_in0 hl (own_neq0 (by omega) hc13_2))) (v := (.int u0)) (hv0 (own_in0 hl (own_neq0 (by omega) hc13_2))) (g := (mkF m 40 #[.val (.ref a), .val (.int (0 : Int32)), .val (.int (1 : Int32))] [(.int (0 : Int32)), (.ref bq)])) rfl rfl (hb hby d8_40) _ ?_
        show Steps p.tables e below (T5.setTop (mkF m 41 #[.val (.ref a), .val (.int (0 : Int32)), .val (.int (1 : Int32))] [(.int u0)])) _
        refine XS.sipush X5.here hx rfl (hb hby d8_41) ?_
        show Steps p.tables e below (T5.setTop (mkF m 44 #[.val (.ref a), .val (.int (0 : Int32)), .val (.int (1 : Int32))] [(.int (255 : Int32)), (.int u0)])) _
        refine XS.iand X5.here hx rfl (hb hby d8_44) rfl ?_
        show Steps p.tables e below (T5.setTop (mkF m 45 #[.val (.ref a), .val (.int (0 : Int32)), .val (.int (1 : Int32))] [(.int (u0 &&& (255 : Int32)))])) _
        exact k
      exact own_retI X5 hx hlk hret (hb hby d8_45) (by decide) (by decide) N0 ⟨by unfold own_ind; rw [if_neg (own_neq0 (by omega) hc13_2), if_neg hc24_4, if_pos rfl], e5⟩
set_option maxRecDepth 65536 in
set_option maxHeartbeats 40000000 in
theorem rm8_1 (l : Launch) (Z : State) (a0 : Array Value) (hw : ∀ d ∈ tables_1, d.before a0 Z = true) (a : Addr) (p0 : Int32) (bq : Addr) (kq : ClassId) (us : List Value) (lN : Nat) (u0 u1 : Int32) (h0 : Heap) (n0 : Nat) (E0 : Exa Z h0 a "com/example/encabeza/encabeza/model/Field") (F0 : Fld Z h0 a "com/example/encabeza/encabeza/model/Field" "data" "[B" (.ref bq)) (V0 : Arv Z h0 bq kq .byte (Int32.ofNat lN) us (.int 0)) (hp : p0 = (1 : Int32)) (hl : lN ≤ 3) (hv0 : 0 < lN → us.getD (0 : Int32).toNatClampNeg (.int 0) = .int u0) (hv1 : 1 < lN → us.getD (1 : Int32).toNatClampNeg (.int 0) = .int u1) : own_Con [] l Z (⟨"com/example/encabeza/encabeza/model/Field", "indicator", "(I)I"⟩ : MethodName) prog_43_method_9_code 3 (some .int) own_r8 n0 #[(.ref a), (.int p0)] h0 (own_P (.int (own_ind lN u0 u1 1)) h0) := by
  refine own_body (plainFor_of_name (by first | (simp [plainName, overriddenIn]; done) | decide +kernel)) (fun m => mkF m 0 #[.val (.ref a), .val (.int p0), .unset] []) (fun m => ef_8 m a p0) ?_
  intro p e s m below meth c s₁ hx hby hml hown hnm hZ hret hlk X0 e0 N0
  subst hp
  refine own_go (T' := s₁) (g' := (mkF m 9 #[.val (.ref a), .val (.int (1 : Int32)), .val (.int (0 : Int32))] [(.ref a), (.int (0 : Int32))])) (fun t k => ?_) ?_
  · show Steps p.tables e below (s₁.setTop (mkF m 0 #[.val (.ref a), .val (.int (1 : Int32)), .unset] [])) t
    refine XS.iconst X0.here hx rfl (hb hby d8_0) ?_
    show Steps p.tables e below (s₁.setTop (mkF m 1 #[.val (.ref a), .val (.int (1 : Int32)), .unset] [(.int (0 : Int32))])) _
    refine XS.istoreN X0.here hx rfl (hb hby d8_1) rfl (l' := #[.val (.ref a), .val (.int (1 : Int32)), .val (.int (0 : Int32))]) rfl ?_
    show Steps p.tables e below (s₁.setTop (mkF m 2 #[.val (.ref a), .val (.int (1 : Int32)), .val (.int (0 : Int32))] [])) _
    refine XS.iloadN X0.here hx rfl (hb hby d8_2) rfl ?_
    show Steps p.tables e below (s₁.setTop (mkF m 3 #[.val (.ref a), .val (.int (1 : Int32)), .val (.int (0 : Int32))] [(.int (0 : Int32))])) _
    refine XS.iloadN X0.here hx rfl (hb hby d8_3) rfl ?_
    show Steps p.tables e below (s₁.setTop (mkF m 4 #[.val (.ref a), .val (.int (1 : Int32)), .val (.int (0 : Int32))] [(.int (1 : Int32)), (.int (0 : Int32))])) _
    refine XS.icmpNo X0.here hx rfl (hb hby d8_4) rfl (flt (by decide)).2.2.1 ?_
    show Steps p.tables e below (s₁.setTop (mkF m 7 #[.val (.ref a), .val (.int (1 : Int32)), .val (.int (0 : Int32))] [])) _
    refine XS.iloadN X0.here hx rfl (hb hby d8_7) rfl ?_
    show Steps p.tables e below (s₁.setTop (mkF m 8 #[.val (.ref a), .val (.int (1 : Int32)), .val (.int (0 : Int32))] [(.int (0 : Int32))])) _
    refine XS.aloadN X0.here hx rfl (hb hby d8_8) rfl rfl ?_
    show Steps p.tables e below (s₁.setTop (mkF m 9 #[.val (.ref a), .val (.int (1 : Int32)), .val (.int (0 : Int32))] [(.ref a), (.int (0 : Int32))])) _
    exact k
  obtain ⟨T1, X1, e1, st1⟩ := getF X0 hx hZ hown (host := "") (Or.inl (hw _ (List.mem_of_getElem? (i := 41) rfl))) Via.refl e0 F0 (g := (mkF m 9 #[.val (.ref a), .val (.int (1 : Int32)), .val (.int (0 : Int32))] [(.ref a), (.int (0 : Int32))])) rfl rfl (hb hby d8_9)
  refine own_go (T' := T1) (g' := (mkF m 12 #[.val (.ref a), .val (.int (1 : Int32)), .val (.int (0 : Int32))] [(.ref bq), (.int (0 : Int32))])) st1 ?_
  refine own_go (T' := T1) (g' := (mkF m 13 #[.val (.ref a), .val (.int (1 : Int32)), .val (.int (0 : Int32))] [(.int (Int32.ofNat lN)), (.int (0 : Int32))])) (fun t k => ?_) ?_
  · show Steps p.tables e below (T1.setTop (mkF m 12 #[.val (.ref a), .val (.int (1 : Int32)), .val (.int (0 : Int32))] [(.ref bq), (.int (0 : Int32))])) t
    refine own_len X1 hx hZ e1 V0 (g := (mkF m 12 #[.val (.ref a), .val (.int (1 : Int32)), .val (.int (0 : Int32))] [(.ref bq), (.int (0 : Int32))])) rfl rfl (hb hby d8_12) _ ?_
    show Steps p.tables e below (T1.setTop (mkF m 13 #[.val (.ref a), .val (.int (1 : Int32)), .val (.int (0 : Int32))] [(.int (Int32.ofNat lN)), (.int (0 : Int32))])) _
    exact k
  by_cases hc13_2 : (0 : Int32) = (Int32.ofNat lN)
  · refine own_go (T' := T1) (g' := (mkF m 27 #[.val (.ref a), .val (.int (1 : Int32)), .val (.int (0 : Int32))] [])) (fun t k => ?_) ?_
    · refine XS.icmpYes X1.here hx rfl (pc0 := 13) (pc' := 27) rfl (hb hby d8_13) rfl (teq hc13_2).1 (by decide) (by decide) ?_
      exact k
    refine own_go (T' := T1) (g' := (mkF m 28 #[.val (.ref a), .val (.int (1 : Int32)), .val (.int (0 : Int32))] [(.int (-1 : Int32))])) (fun t k => ?_) ?_
    · show Steps p.tables e below (T1.setTop (mkF m 27 #[.val (.ref a), .val (.int (1 : Int32)), .val (.int (0 : Int32))] [])) t
      refine XS.iconst X1.here hx rfl (hb hby d8_27) ?_
      show Steps p.tables e below (T1.setTop (mkF m 28 #[.val (.ref a), .val (.int (1 : Int32)), .val (.int (0 : Int32))] [(.int (-1 : Int32))])) _
      exact k
    exact own_retI X1 hx hlk hret (hb hby d8_28) (by decide) (by decide) N0 ⟨by unfold own_ind; rw [if_pos (own_eq0 (by omega) hc13_2)], e1⟩
  · refine own_go (T' := T1) (g' := (mkF m 16 #[.val (.ref a), .val (.int (1 : Int32)), .val (.int (0 : Int32))] [])) (fun t k => ?_) ?_
    · refine XS.icmpNo X1.here hx rfl (hb hby d8_13) rfl (feq hc13_2).1 ?_
      exact k
    refine own_go (T' := T1) (g' := (mkF m 17 #[.val (.ref a), .val (.int (1 : Int32)), .val (.int (0 : Int32))] [(.ref a)])) (fun t k => ?_) ?_
    · show Steps p.tables e below (T1.setTop (mkF m 16 #[.val (.ref a), .val (.int (1 : Int32)), .val (.int (0 : Int32))] [])) t
      refine XS.aloadN X1.here hx rfl (hb hby d8_16) rfl rfl ?_
      show Steps p.tables e below (T1.setTop (mkF m 17 #[.val (.ref a), .val (.int (1 : Int32)), .val (.int (0 : Int32))] [(.ref a)])) _
      exact k
    obtain ⟨T3, X3, e3, st3⟩ := getF X1 hx hZ hown (host := "") (Or.inl (hw _ (List.mem_of_getElem? (i := 41) rfl))) Via.refl e1 F0 (g := (mkF m 17 #[.val (.ref a), .val (.int (1 : Int32)), .val (.int (0 : Int32))] [(.ref a)])) rfl rfl (hb hby d8_17)
    refine own_go (T' := T3) (g' := (mkF m 20 #[.val (.ref a), .val (.int (1 : Int32)), .val (.int (0 : Int32))] [(.ref bq)])) st3 ?_
    refine own_go (T' := T3) (g' := (mkF m 24 #[.val (.ref a), .val (.int (1 : Int32)), .val (.int (0 : Int32))] [(.int (31 : Int32)), (.int u0)])) (fun t k => ?_) ?_
    · show Steps p.tables e below (T3.setTop (mkF m 20 #[.val (.ref a), .val (.int (1 : Int32)), .val (.int (0 : Int32))] [(.ref bq)])) t
      refine XS.iloadN X3.here hx rfl (hb hby d8_20) rfl ?_
      show Steps p.tables e below (T3.setTop (mkF m 21 #[.val (.ref a), .val (.int (1 : Int32)), .val (.int (0 : Int32))] [(.int (0 : Int32)), (.ref bq)])) _
      refine own_ldB X3 hx hZ e3 V0 (j := (0 : Int32)) (own_ui0 hl (own_in0 hl (own_neq0 (by omega) hc13_2))) (v := (.int u0)) (hv0 (own_in0 hl (own_neq0 (by omega) hc13_2))) (g := (mkF m 21 #[.val (.ref a), .val (.int (1 : Int32)), .val (.int (0 : Int32))] [(.int (0 : Int32)), (.ref bq)])) rfl rfl (hb hby d8_21) _ ?_
      show Steps p.tables e below (T3.setTop (mkF m 22 #[.val (.ref a), .val (.int (1 : Int32)), .val (.int (0 : Int32))] [(.int u0)])) _
      refine XS.bipush X3.here hx rfl (hb hby d8_22) ?_
      show Steps p.tables e below (T3.setTop (mkF m 24 #[.val (.ref a), .val (.int (1 : Int32)), .val (.int (0 : Int32))] [(.int (31 : Int32)), (.int u0)])) _
      exact k
    by_cases hc24_4 : u0 = (31 : Int32)
    · refine own_go (T' := T3) (g' := (mkF m 27 #[.val (.ref a), .val (.int (1 : Int32)), .val (.int (0 : Int32))] [])) (fun t k => ?_) ?_
      · refine XS.icmpNo X3.here hx rfl (hb hby d8_24) rfl (teq hc24_4).2 ?_
        exact k
      refine own_go (T' := T3) (g' := (mkF m 28 #[.val (.ref a), .val (.int (1 : Int32)), .val (.int (0 : Int32))] [(.int (-1 : Int32))])) (fun t k => ?_) ?_
      · show Steps p.tables e below (T3.setTop (mkF m 27 #[.val (.ref a), .val (.int (1 : Int32)), .val (.int (0 : Int32))] [])) t
        refine XS.iconst X3.here hx rfl (hb hby d8_27) ?_
        show Steps p.tables e below (T3.setTop (mkF m 28 #[.val (.ref a), .val (.int (1 : Int32)), .val (.int (0 : Int32))] [(.int (-1 : Int32))])) _
        exact k
      exact own_retI X3 hx hlk hret (hb hby d8_28) (by decide) (by decide) N0 ⟨by unfold own_ind; rw [if_neg (own_neq0 (by omega) hc13_2), if_pos hc24_4], e3⟩
    · refine own_go (T' := T3) (g' := (mkF m 29 #[.val (.ref a), .val (.int (1 : Int32)), .val (.int (0 : Int32))] [])) (fun t k => ?_) ?_
      · refine XS.icmpYes X3.here hx rfl (pc0 := 24) (pc' := 29) rfl (hb hby d8_24) rfl (feq hc24_4).2 (by decide) (by decide) ?_
        exact k
      refine own_go (T' := T3) (g' := (mkF m 9 #[.val (.ref a), .val (.int (1 : Int32)), .val (.int (1 : Int32))] [(.ref a), (.int (1 : Int32))])) (fun t k => ?_) ?_
      · show Steps p.tables e below (T3.setTop (mkF m 29 #[.val (.ref a), .val (.int (1 : Int32)), .val (.int (0 : Int32))] [])) t
        refine XS.iinc X3.here hx rfl (hb hby d8_29) rfl (l' := #[.val (.ref a), .val (.int (1 : Int32)), .val (.int (1 : Int32))]) rfl ?_
        show Steps p.tables e below (T3.setTop (mkF m 32 #[.val (.ref a), .val (.int (1 : Int32)), .val (.int (1 : Int32))] [])) _
        refine XS.goto X3.here hx rfl (pc0 := 32) (pc' := 2) rfl (hb hby d8_32) (by decide) (by decide) ?_
        show Steps p.tables e below (T3.setTop (mkF m 2 #[.val (.ref a), .val (.int (1 : Int32)), .val (.int (1 : Int32))] [])) _
        refine XS.iloadN X3.here hx rfl (hb hby d8_2) rfl ?_
        show Steps p.tables e below (T3.setTop (mkF m 3 #[.val (.ref a), .val (.int (1 : Int32)), .val (.int (1 : Int32))] [(.int (1 : Int32))])) _
        refine XS.iloadN X3.here hx rfl (hb hby d8_3) rfl ?_
        show Steps p.tables e below (T3.setTop (mkF m 4 #[.val (.ref a), .val (.int (1 : Int32)), .val (.int (1 : Int32))] [(.int (1 : Int32)), (.int (1 : Int32))])) _
        refine XS.icmpNo X3.here hx rfl (hb hby d8_4) rfl (flt (by decide)).2.2.1 ?_
        show Steps p.tables e below (T3.setTop (mkF m 7 #[.val (.ref a), .val (.int (1 : Int32)), .val (.int (1 : Int32))] [])) _
        refine XS.iloadN X3.here hx rfl (hb hby d8_7) rfl ?_
        show Steps p.tables e below (T3.setTop (mkF m 8 #[.val (.ref a), .val (.int (1 : Int32)), .val (.int (1 : Int32))] [(.int (1 : Int32))])) _
        refine XS.aloadN X3.here hx rfl (hb hby d8_8) rfl rfl ?_
        show Steps p.tables e below (T3.setTop (mkF m 9 #[.val (.ref a), .val (.int (1 : Int32)), .val (.int (1 : Int32))] [(.ref a), (.int (1 : Int32))])) _
        exact k
      obtain ⟨T5, X5, e5, st5⟩ := getF X3 hx hZ hown (host := "") (Or.inl (hw _ (List.mem_of_getElem? (i := 41) rfl))) Via.refl e3 F0 (g := (mkF m 9 #[.val (.ref a), .val (.int (1 : Int32)), .val (.int (1 : Int32))] [(.ref a), (.int (1 : Int32))])) rfl rfl (hb hby d8_9)
      refine own_go (T' := T5) (g' := (mkF m 12 #[.val (.ref a), .val (.int (1 : Int32)), .val (.int (1 : Int32))] [(.ref bq), (.int (1 : Int32))])) st5 ?_
      refine own_go (T' := T5) (g' := (mkF m 13 #[.val (.ref a), .val (.int (1 : Int32)), .val (.int (1 : Int32))] [(.int (Int32.ofNat lN)), (.int (1 : Int32))])) (fun t k => ?_) ?_
      · show Steps p.tables e below (T5.setTop (mkF m 12 #[.val (.ref a), .val (.int (1 : Int32)), .val (.int (1 : Int32))] [(.ref bq), (.int (1 : Int32))])) t
        refine own_len X5 hx hZ e5 V0 (g := (mkF m 12 #[.val (.ref a), .val (.int (1 : Int32)), .val (.int (1 : Int32))] [(.ref bq), (.int (1 : Int32))])) rfl rfl (hb hby d8_12) _ ?_
        show Steps p.tables e below (T5.setTop (mkF m 13 #[.val (.ref a), .val (.int (1 : Int32)), .val (.int (1 : Int32))] [(.int (Int32.ofNat lN)), (.int (1 : Int32))])) _
        exact k
      by_cases hc13_6 : (1 : Int32) = (Int32.ofNat lN)
      · refine own_go (T' := T5) (g' := (mkF m 27 #[.val (.ref a), .val (.int (1 : Int32)), .val (.int (1 : Int32))] [])) (fun t k => ?_) ?_
        · refine XS.icmpYes X5.here hx rfl (pc0 := 13) (pc' := 27) rfl (hb hby d8_13) rfl (teq hc13_6).1 (by decide) (by decide) ?_
          exact k
        refine own_go (T' := T5) (g' := (mkF m 28 #[.val (.ref a), .val (.int (1 : Int32)), .val (.int (1 : Int32))] [(.int (-1 : Int32))])) (fun t k => ?_) ?_
        · show Steps p.tables e below (T5.setTop (mkF m 27 #[.val (.ref a), .val (.int (1 : Int32)), .val (.int (1 : Int32))] [])) t
          refine XS.iconst X5.here hx rfl (hb hby d8_27) ?_
          show Steps p.tables e below (T5.setTop (mkF m 28 #[.val (.ref a), .val (.int (1 : Int32)), .val (.int (1 : Int32))] [(.int (-1 : Int32))])) _
          exact k
        exact own_retI X5 hx hlk hret (hb hby d8_28) (by decide) (by decide) N0 ⟨by unfold own_ind; rw [if_neg (own_neq0 (by omega) hc13_2), if_neg hc24_4, if_neg (by decide), if_pos (own_eq1 (by omega) hc13_6)], e5⟩
      · refine own_go (T' := T5) (g' := (mkF m 16 #[.val (.ref a), .val (.int (1 : Int32)), .val (.int (1 : Int32))] [])) (fun t k => ?_) ?_
        · refine XS.icmpNo X5.here hx rfl (hb hby d8_13) rfl (feq hc13_6).1 ?_
          exact k
        refine own_go (T' := T5) (g' := (mkF m 17 #[.val (.ref a), .val (.int (1 : Int32)), .val (.int (1 : Int32))] [(.ref a)])) (fun t k => ?_) ?_
        · show Steps p.tables e below (T5.setTop (mkF m 16 #[.val (.ref a), .val (.int (1 : Int32)), .val (.int (1 : Int32))] [])) t
          refine XS.aloadN X5.here hx rfl (hb hby d8_16) rfl rfl ?_
          show Steps p.tables e below (T5.setTop (mkF m 17 #[.val (.ref a), .val (.int (1 : Int32)), .val (.int (1 : Int32))] [(.ref a)])) _
          exact k
        obtain ⟨T7, X7, e7, st7⟩ := getF X5 hx hZ hown (host := "") (Or.inl (hw _ (List.mem_of_getElem? (i := 41) rfl))) Via.refl e5 F0 (g := (mkF m 17 #[.val (.ref a), .val (.int (1 : Int32)), .val (.int (1 : Int32))] [(.ref a)])) rfl rfl (hb hby d8_17)
        refine own_go (T' := T7) (g' := (mkF m 20 #[.val (.ref a), .val (.int (1 : Int32)), .val (.int (1 : Int32))] [(.ref bq)])) st7 ?_
        refine own_go (T' := T7) (g' := (mkF m 24 #[.val (.ref a), .val (.int (1 : Int32)), .val (.int (1 : Int32))] [(.int (31 : Int32)), (.int u1)])) (fun t k => ?_) ?_
        · show Steps p.tables e below (T7.setTop (mkF m 20 #[.val (.ref a), .val (.int (1 : Int32)), .val (.int (1 : Int32))] [(.ref bq)])) t
          refine XS.iloadN X7.here hx rfl (hb hby d8_20) rfl ?_
          show Steps p.tables e below (T7.setTop (mkF m 21 #[.val (.ref a), .val (.int (1 : Int32)), .val (.int (1 : Int32))] [(.int (1 : Int32)), (.ref bq)])) _
          refine own_ldB X7 hx hZ e7 V0 (j := (1 : Int32)) (own_ui1 hl (own_in1 hl (own_neq0 (by omega) hc13_2) (own_neq1 (by omega) hc13_6))) (v := (.int u1)) (hv1 (own_in1 hl (own_neq0 (by omega) hc13_2) (own_neq1 (by omega) hc13_6))) (g := (mkF m 21 #[.val (.ref a), .val (.int (1 : Int32)), .val (.int (1 : Int32))] [(.int (1 : Int32)), (.ref bq)])) rfl rfl (hb hby d8_21) _ ?_
          show Steps p.tables e below (T7.setTop (mkF m 22 #[.val (.ref a), .val (.int (1 : Int32)), .val (.int (1 : Int32))] [(.int u1)])) _
          refine XS.bipush X7.here hx rfl (hb hby d8_22) ?_
          show Steps p.tables e below (T7.setTop (mkF m 24 #[.val (.ref a), .val (.int (1 : Int32)), .val (.int (1 : Int32))] [(.int (31 : Int32)), (.int u1)])) _
          exact k
        by_cases hc24_8 : u1 = (31 : Int32)
        · refine own_go (T' := T7) (g' := (mkF m 27 #[.val (.ref a), .val (.int (1 : Int32)), .val (.int (1 : Int32))] [])) (fun t k => ?_) ?_
          · refine XS.icmpNo X7.here hx rfl (hb hby d8_24) rfl (teq hc24_8).2 ?_
            exact k
          refine own_go (T' := T7) (g' := (mkF m 28 #[.val (.ref a), .val (.int (1 : Int32)), .val (.int (1 : Int32))] [(.int (-1 : Int32))])) (fun t k => ?_) ?_
          · show Steps p.tables e below (T7.setTop (mkF m 27 #[.val (.ref a), .val (.int (1 : Int32)), .val (.int (1 : Int32))] [])) t
            refine XS.iconst X7.here hx rfl (hb hby d8_27) ?_
            show Steps p.tables e below (T7.setTop (mkF m 28 #[.val (.ref a), .val (.int (1 : Int32)), .val (.int (1 : Int32))] [(.int (-1 : Int32))])) _
            exact k
          exact own_retI X7 hx hlk hret (hb hby d8_28) (by decide) (by decide) N0 ⟨by unfold own_ind; rw [if_neg (own_neq0 (by omega) hc13_2), if_neg hc24_4, if_neg (by decide), if_neg (own_neq1 (by omega) hc13_6), if_pos hc24_8], e7⟩
        · refine own_go (T' := T7) (g' := (mkF m 29 #[.val (.ref a), .val (.int (1 : Int32)), .val (.int (1 : Int32))] [])) (fun t k => ?_) ?_
          · refine XS.icmpYes X7.here hx rfl (pc0 := 24) (pc' := 29) rfl (hb hby d8_24) rfl (feq hc24_8).2 (by decide) (by decide) ?_
            exact k
          refine own_go (T' := T7) (g' := (mkF m 36 #[.val (.ref a), .val (.int (1 : Int32)), .val (.int (2 : Int32))] [(.ref a)])) (fun t k => ?_) ?_
          · show Steps p.tables e below (T7.setTop (mkF m 29 #[.val (.ref a), .val (.int (1 : Int32)), .val (.int (1 : Int32))] [])) t
            refine XS.iinc X7.here hx rfl (hb hby d8_29) rfl (l' := #[.val (.ref a), .val (.int (1 : Int32)), .val (.int (2 : Int32))]) rfl ?_
            show Steps p.tables e below (T7.setTop (mkF m 32 #[.val (.ref a), .val (.int (1 : Int32)), .val (.int (2 : Int32))] [])) _
            refine XS.goto X7.here hx rfl (pc0 := 32) (pc' := 2) rfl (hb hby d8_32) (by decide) (by decide) ?_
            show Steps p.tables e below (T7.setTop (mkF m 2 #[.val (.ref a), .val (.int (1 : Int32)), .val (.int (2 : Int32))] [])) _
            refine XS.iloadN X7.here hx rfl (hb hby d8_2) rfl ?_
            show Steps p.tables e below (T7.setTop (mkF m 3 #[.val (.ref a), .val (.int (1 : Int32)), .val (.int (2 : Int32))] [(.int (2 : Int32))])) _
            refine XS.iloadN X7.here hx rfl (hb hby d8_3) rfl ?_
            show Steps p.tables e below (T7.setTop (mkF m 4 #[.val (.ref a), .val (.int (1 : Int32)), .val (.int (2 : Int32))] [(.int (1 : Int32)), (.int (2 : Int32))])) _
            refine XS.icmpYes X7.here hx rfl (pc0 := 4) (pc' := 35) rfl (hb hby d8_4) rfl (tlt (by decide)).2.2.1 (by decide) (by decide) ?_
            show Steps p.tables e below (T7.setTop (mkF m 35 #[.val (.ref a), .val (.int (1 : Int32)), .val (.int (2 : Int32))] [])) _
            refine XS.aloadN X7.here hx rfl (hb hby d8_35) rfl rfl ?_
            show Steps p.tables e below (T7.setTop (mkF m 36 #[.val (.ref a), .val (.int (1 : Int32)), .val (.int (2 : Int32))] [(.ref a)])) _
            exact k
          obtain ⟨T9, X9, e9, st9⟩ := getF X7 hx hZ hown (host := "") (Or.inl (hw _ (List.mem_of_getElem? (i := 41) rfl))) Via.refl e7 F0 (g := (mkF m 36 #[.val (.ref a), .val (.int (1 : Int32)), .val (.int (2 : Int32))] [(.ref a)])) rfl rfl (hb hby d8_36)
          refine own_go (T' := T9) (g' := (mkF m 39 #[.val (.ref a), .val (.int (1 : Int32)), .val (.int (2 : Int32))] [(.ref bq)])) st9 ?_
          refine own_go (T' := T9) (g' := (mkF m 45 #[.val (.ref a), .val (.int (1 : Int32)), .val (.int (2 : Int32))] [(.int (u1 &&& (255 : Int32)))])) (fun t k => ?_) ?_
          · show Steps p.tables e below (T9.setTop (mkF m 39 #[.val (.ref a), .val (.int (1 : Int32)), .val (.int (2 : Int32))] [(.ref bq)])) t
            refine XS.iloadN X9.here hx rfl (hb hby d8_39) rfl ?_
            show Steps p.tables e below (T9.setTop (mkF m 40 #[.val (.ref a), .val (.int (1 : Int32)), .val (.int (2 : Int32))] [(.int (1 : Int32)), (.ref bq)])) _
            refine own_ldB X9 hx hZ e9 V0 (j := (1 : Int32)) (own_ui1 hl (own_in1 hl (own_neq0 (by omega) hc13_2) (own_neq1 (by omega) hc13_6))) (v := (.int u1)) (hv1 (own_in1 hl (own_neq0 (by omega) hc13_2) (own_neq1 (by omega) hc13_6))) (g := (mkF m 40 #[.val (.ref a), .val (.int (1 : Int32)), .val (.int (2 : Int32))] [(.int (1 : Int32)), (.ref bq)])) rfl rfl (hb hby d8_40) _ ?_
            show Steps p.tables e below (T9.setTop (mkF m 41 #[.val (.ref a), .val (.int (1 : Int32)), .val (.int (2 : Int32))] [(.int u1)])) _
            refine XS.sipush X9.here hx rfl (hb hby d8_41) ?_
            show Steps p.tables e below (T9.setTop (mkF m 44 #[.val (.ref a), .val (.int (1 : Int32)), .val (.int (2 : Int32))] [(.int (255 : Int32)), (.int u1)])) _
            refine XS.iand X9.here hx rfl (hb hby d8_44) rfl ?_
            show Steps p.tables e below (T9.setTop (mkF m 45 #[.val (.ref a), .val (.int (1 : Int32)), .val (.int (2 : Int32))] [(.int (u1 &&& (255 : Int32)))])) _
            exact k
          exact own_retI X9 hx hlk hret (hb hby d8_45) (by decide) (by decide) N0 ⟨by unfold own_ind; rw [if_neg (own_neq0 (by omega) hc13_2), if_neg hc24_4, if_neg (by decide), if_neg (own_neq1 (by omega) hc13_6), if_neg hc24_8], e9⟩
def own_Q0 : Option Value → Heap → Prop := fun v _ => v = some (.int 1) ∧ True
theorem pd_3 : parseMethodDescriptor "(IIII)B" = some ⟨[.int, .int, .int, .int], some .byte⟩ := by decide +kernel
theorem pd_4 : parseMethodDescriptor "(Ljava/lang/String;[BII)V" = some ⟨[(.object "java/lang/String"), (.array .byte), .int, .int], none⟩ := by decide +kernel
theorem pd_5 : parseMethodDescriptor "(I)I" = some ⟨[.int], some .int⟩ := by decide +kernel
theorem ef_0 (m : MethodId) (p0 : Int32) (p1 : Int32) (p2 : Int32) (p3 : Int32) : entryFrame m #[(.int p0), (.int p1), (.int p2), (.int p3)] maxLocals = mkF m 0 #[.val (.int p0), .val (.int p1), .val (.int p2), .val (.int p3), .unset, .unset, .unset, .unset, .unset, .unset, .unset, .unset, .unset, .unset, .unset] [] := by first | (simp [entryFrame, mkF, argsToLocals, Value.category, maxLocals]; done) | rfl
set_option maxRecDepth 65536 in
set_option maxHeartbeats 40000000 in
theorem rm0 (l : Launch) (Z : State) (a0 : Array Value) (hw : ∀ d ∈ tables_1, d.before a0 Z = true) (p0 p1 p2 p3 : Int32) (h0 : Heap) (n0 : Nat) (Z0 : n0 ≤ h0.size) : MetFree l x (head1 (Jvm.Cond.code x code maxLocals ret :: tables_1) room_1) (fun a U => a = #[(.int p0), (.int p1), (.int p2), (.int p3)] ∧ Z.Warmed39 U.vm ∧ U.heap = h0) (fun _ _ _ _ _ => True) (fun _ U o U' => ∃ v L, o = .returned v ∧ (Fr n0 L ∧ own_Q0 v U'.heap) ∧ ReturnedEndW U o U' L room_1.cells room_1.slots) := by
  refine own_bodyW (plainFor_of_name (by first | (simp [plainName, overriddenIn]; done) | decide +kernel)) (fun m => mkF m 0 #[.val (.int p0), .val (.int p1), .val (.int p2), .val (.int p3), .unset, .unset, .unset, .unset, .unset, .unset, .unset, .unset, .unset, .unset, .unset] []) (fun m => ef_0 m p0 p1 p2 p3) ?_
  intro p e s m below meth c s₁ hx hby hml hown hnm hZ hret hlk X0 e0 N0
  have hml : c.maxLocals = 15 := hml
  have hown : s.vm.findClass "com/example/encabeza/encabeza/model/FieldIndicatorPinLaw" = some m.cls := hown
  have hret : meth.sig.returnType = some .boolean := hret
  refine own_goW (T' := s₁) (g' := (mkF m 1 #[.val (.int p0), .val (.int p1), .val (.int p2), .val (.int p3), .unset, .unset, .unset, .unset, .unset, .unset, .unset, .unset, .unset, .unset, .unset] [(.int (4 : Int32))])) (fun t k => ?_) ?_
  · show Steps p.tables e below (s₁.setTop (mkF m 0 #[.val (.int p0), .val (.int p1), .val (.int p2), .val (.int p3), .unset, .unset, .unset, .unset, .unset, .unset, .unset, .unset, .unset, .unset, .unset] [])) t
    refine XS.iconst X0.here hx rfl (hb hby at_0) ?_
    show Steps p.tables e below (s₁.setTop (mkF m 1 #[.val (.int p0), .val (.int p1), .val (.int p2), .val (.int p3), .unset, .unset, .unset, .unset, .unset, .unset, .unset, .unset, .unset, .unset, .unset] [(.int (4 : Int32))])) _
    exact k
  obtain ⟨T1, h1, k1, b1, g1, X1, e1, E1, A1, st1⟩ := own_new X0 hx hZ (hw _ (List.mem_of_getElem? (i := 0) rfl)) e0 (g := (mkF m 1 #[.val (.int p0), .val (.int p1), .val (.int p2), .val (.int p3), .unset, .unset, .unset, .unset, .unset, .unset, .unset, .unset, .unset, .unset, .unset] [(.int (4 : Int32))])) rfl (hb hby at_1) rfl (by decide) (cap := 4) (by decide) (by decide) (by decide) (by decide)
  have ga_b1 : n0 ≤ b1 := Nat.le_trans Z0 (Nat.le_of_eq g1.symm)
  have sz_1 := Nat.le_trans Z0 E1.1
  have V_b1_1 : Arv Z h1 b1 k1 .byte (4 : Int32) [(.int (0 : Int32)), (.int (0 : Int32)), (.int (0 : Int32)), (.int (0 : Int32))] (.int (0 : Int32)) := A1.pad (pad_rep [] (.int (0 : Int32)) 4)
  refine own_goW (T' := T1) (g' := (mkF m 3 #[.val (.int p0), .val (.int p1), .val (.int p2), .val (.int p3), .unset, .unset, .unset, .unset, .unset, .unset, .unset, .unset, .unset, .unset, .unset] [(.ref b1)])) st1 ?_
  refine own_goW (T' := T1) (g' := (mkF m 12 #[.val (.int p0), .val (.int p1), .val (.int p2), .val (.int p3), .val (.ref b1), .unset, .unset, .unset, .unset, .unset, .unset, .unset, .unset, .unset, .unset] [(.int (0 : Int32)), (.int p0), (.int (0 : Int32)), (.int p1), (.int (0 : Int32)), (.ref b1)])) (fun t k => ?_) ?_
  · show Steps p.tables e below (T1.setTop (mkF m 3 #[.val (.int p0), .val (.int p1), .val (.int p2), .val (.int p3), .unset, .unset, .unset, .unset, .unset, .unset, .unset, .unset, .unset, .unset, .unset] [(.ref b1)])) t
    refine XS.astore X1.here hx rfl (hb hby at_3) rfl rfl (l' := #[.val (.int p0), .val (.int p1), .val (.int p2), .val (.int p3), .val (.ref b1), .unset, .unset, .unset, .unset, .unset, .unset, .unset, .unset, .unset, .unset]) rfl ?_
    show Steps p.tables e below (T1.setTop (mkF m 5 #[.val (.int p0), .val (.int p1), .val (.int p2), .val (.int p3), .val (.ref b1), .unset, .unset, .unset, .unset, .unset, .unset, .unset, .unset, .unset, .unset] [])) _
    refine XS.aload X1.here hx rfl (hb hby at_5) rfl rfl ?_
    show Steps p.tables e below (T1.setTop (mkF m 7 #[.val (.int p0), .val (.int p1), .val (.int p2), .val (.int p3), .val (.ref b1), .unset, .unset, .unset, .unset, .unset, .unset, .unset, .unset, .unset, .unset] [(.ref b1)])) _
    refine XS.iconst X1.here hx rfl (hb hby at_7) ?_
    show Steps p.tables e below (T1.setTop (mkF m 8 #[.val (.int p0), .val (.int p1), .val (.int p2), .val (.int p3), .val (.ref b1), .unset, .unset, .unset, .unset, .unset, .unset, .unset, .unset, .unset, .unset] [(.int (0 : Int32)), (.ref b1)])) _
    refine XS.iloadN X1.here hx rfl (hb hby at_8) rfl ?_
    show Steps p.tables e below (T1.setTop (mkF m 9 #[.val (.int p0), .val (.int p1), .val (.int p2), .val (.int p3), .val (.ref b1), .unset, .unset, .unset, .unset, .unset, .unset, .unset, .unset, .unset, .unset] [(.int p1), (.int (0 : Int32)), (.ref b1)])) _
    refine XS.iconst X1.here hx rfl (hb hby at_9) ?_
    show Steps p.tables e below (T1.setTop (mkF m 10 #[.val (.int p0), .val (.int p1), .val (.int p2), .val (.int p3), .val (.ref b1), .unset, .unset, .unset, .unset, .unset, .unset, .unset, .unset, .unset, .unset] [(.int (0 : Int32)), (.int p1), (.int (0 : Int32)), (.ref b1)])) _
    refine XS.iloadN X1.here hx rfl (hb hby at_10) rfl ?_
    show Steps p.tables e below (T1.setTop (mkF m 11 #[.val (.int p0), .val (.int p1), .val (.int p2), .val (.int p3), .val (.ref b1), .unset, .unset, .unset, .unset, .unset, .unset, .unset, .unset, .unset, .unset] [(.int p0), (.int (0 : Int32)), (.int p1), (.int (0 : Int32)), (.ref b1)])) _
    refine XS.iconst X1.here hx rfl (hb hby at_11) ?_
    show Steps p.tables e below (T1.setTop (mkF m 12 #[.val (.int p0), .val (.int p1), .val (.int p2), .val (.int p3), .val (.ref b1), .unset, .unset, .unset, .unset, .unset, .unset, .unset, .unset, .unset, .unset] [(.int (0 : Int32)), (.int p0), (.int (0 : Int32)), (.int p1), (.int (0 : Int32)), (.ref b1)])) _
    exact k
  obtain ⟨_, T2, L2, X2, N2, ⟨rfl, e2⟩, st2⟩ := own_callS X1 hx hZ hown (hw _ (List.mem_of_getElem? (i := 1) rfl)) (hw _ (List.mem_of_getElem? (i := 2) rfl)) (hw _ (List.mem_of_getElem? (i := 3) rfl)) (hw _ (List.mem_of_getElem? (i := 4) rfl)) (by decide) (argsL := [(.int p1), (.int (0 : Int32)), (.int p0), (.int (0 : Int32))]) (rest := [(.int (0 : Int32)), (.ref b1)]) (rm1 l Z a0 hw p1 (0 : Int32) p0 (0 : Int32) h1 n0) (W := 2) (by decide) (by decide) (g := (mkF m 12 #[.val (.int p0), .val (.int p1), .val (.int p2), .val (.int p3), .val (.ref b1), .unset, .unset, .unset, .unset, .unset, .unset, .unset, .unset, .unset, .unset] [(.int (0 : Int32)), (.int p0), (.int (0 : Int32)), (.int p1), (.int (0 : Int32)), (.ref b1)])) rfl (by rw [hml]; rfl) pd_3 rfl rfl (by show 2 * 0 + _ ≤ _; exact Nat.le_of_eq rfl) (hb hby at_12) e1 (by decide) (by decide) N0
  refine own_goW (T' := T2) (g' := (mkF m 15 #[.val (.int p0), .val (.int p1), .val (.int p2), .val (.int p3), .val (.ref b1), .unset, .unset, .unset, .unset, .unset, .unset, .unset, .unset, .unset, .unset] [(.int (f1_0 p1 (0 : Int32) p0 (0 : Int32))), (.int (0 : Int32)), (.ref b1)])) st2 ?_
  obtain ⟨c0, h_c0⟩ : ∃ z : Int32, z = (f1_0 p1 (0 : Int32) p0 (0 : Int32)) := ⟨_, rfl⟩
  rw [← h_c0]
  have n_c0 : nar .byte c0 = c0 := by rw [h_c0]; exact own_draw _ _ _ _
  obtain ⟨T3, h3, L3, X3, N3, e3, W3, Y3, st3⟩ := own_stB X2 hx hZ e2 V_b1_1 (j := (0 : Int32)) (by decide) 0 rfl (Nat.le_of_ble_eq_true rfl) N2 ga_b1 (g := (mkF m 15 #[.val (.int p0), .val (.int p1), .val (.int p2), .val (.int p3), .val (.ref b1), .unset, .unset, .unset, .unset, .unset, .unset, .unset, .unset, .unset, .unset] [(.int c0), (.int (0 : Int32)), (.ref b1)])) rfl rfl (hb hby at_15)
  rw [n_c0] at W3 Y3
  have V_b1_3 : Arv Z h3 b1 k1 .byte (4 : Int32) [(.int c0), (.int (0 : Int32)), (.int (0 : Int32)), (.int (0 : Int32))] (.int (0 : Int32)) := Y3
  have sz_3 := Nat.le_trans sz_1 (Nat.le_of_eq (Wr.size W3).symm)
  refine own_goW (T' := T3) (g' := (mkF m 16 #[.val (.int p0), .val (.int p1), .val (.int p2), .val (.int p3), .val (.ref b1), .unset, .unset, .unset, .unset, .unset, .unset, .unset, .unset, .unset, .unset] [])) st3 ?_
  refine own_goW (T' := T3) (g' := (mkF m 24 #[.val (.int p0), .val (.int p1), .val (.int p2), .val (.int p3), .val (.ref b1), .unset, .unset, .unset, .unset, .unset, .unset, .unset, .unset, .unset, .unset] [(.int (8 : Int32)), (.int p0), (.int (1 : Int32)), (.int p1), (.int (1 : Int32)), (.ref b1)])) (fun t k => ?_) ?_
  · show Steps p.tables e below (T3.setTop (mkF m 16 #[.val (.int p0), .val (.int p1), .val (.int p2), .val (.int p3), .val (.ref b1), .unset, .unset, .unset, .unset, .unset, .unset, .unset, .unset, .unset, .unset] [])) t
    refine XS.aload X3.here hx rfl (hb hby at_16) rfl rfl ?_
    show Steps p.tables e below (T3.setTop (mkF m 18 #[.val (.int p0), .val (.int p1), .val (.int p2), .val (.int p3), .val (.ref b1), .unset, .unset, .unset, .unset, .unset, .unset, .unset, .unset, .unset, .unset] [(.ref b1)])) _
    refine XS.iconst X3.here hx rfl (hb hby at_18) ?_
    show Steps p.tables e below (T3.setTop (mkF m 19 #[.val (.int p0), .val (.int p1), .val (.int p2), .val (.int p3), .val (.ref b1), .unset, .unset, .unset, .unset, .unset, .unset, .unset, .unset, .unset, .unset] [(.int (1 : Int32)), (.ref b1)])) _
    refine XS.iloadN X3.here hx rfl (hb hby at_19) rfl ?_
    show Steps p.tables e below (T3.setTop (mkF m 20 #[.val (.int p0), .val (.int p1), .val (.int p2), .val (.int p3), .val (.ref b1), .unset, .unset, .unset, .unset, .unset, .unset, .unset, .unset, .unset, .unset] [(.int p1), (.int (1 : Int32)), (.ref b1)])) _
    refine XS.iconst X3.here hx rfl (hb hby at_20) ?_
    show Steps p.tables e below (T3.setTop (mkF m 21 #[.val (.int p0), .val (.int p1), .val (.int p2), .val (.int p3), .val (.ref b1), .unset, .unset, .unset, .unset, .unset, .unset, .unset, .unset, .unset, .unset] [(.int (1 : Int32)), (.int p1), (.int (1 : Int32)), (.ref b1)])) _
    refine XS.iloadN X3.here hx rfl (hb hby at_21) rfl ?_
    show Steps p.tables e below (T3.setTop (mkF m 22 #[.val (.int p0), .val (.int p1), .val (.int p2), .val (.int p3), .val (.ref b1), .unset, .unset, .unset, .unset, .unset, .unset, .unset, .unset, .unset, .unset] [(.int p0), (.int (1 : Int32)), (.int p1), (.int (1 : Int32)), (.ref b1)])) _
    refine XS.bipush X3.here hx rfl (hb hby at_22) ?_
    show Steps p.tables e below (T3.setTop (mkF m 24 #[.val (.int p0), .val (.int p1), .val (.int p2), .val (.int p3), .val (.ref b1), .unset, .unset, .unset, .unset, .unset, .unset, .unset, .unset, .unset, .unset] [(.int (8 : Int32)), (.int p0), (.int (1 : Int32)), (.int p1), (.int (1 : Int32)), (.ref b1)])) _
    exact k
  obtain ⟨_, T4, L4, X4, N4, ⟨rfl, e4⟩, st4⟩ := own_callS X3 hx hZ hown (hw _ (List.mem_of_getElem? (i := 1) rfl)) (hw _ (List.mem_of_getElem? (i := 2) rfl)) (hw _ (List.mem_of_getElem? (i := 3) rfl)) (hw _ (List.mem_of_getElem? (i := 4) rfl)) (by decide) (argsL := [(.int p1), (.int (1 : Int32)), (.int p0), (.int (8 : Int32))]) (rest := [(.int (1 : Int32)), (.ref b1)]) (rm1 l Z a0 hw p1 (1 : Int32) p0 (8 : Int32) h3 n0) (W := 2) (by decide) (by decide) (g := (mkF m 24 #[.val (.int p0), .val (.int p1), .val (.int p2), .val (.int p3), .val (.ref b1), .unset, .unset, .unset, .unset, .unset, .unset, .unset, .unset, .unset, .unset] [(.int (8 : Int32)), (.int p0), (.int (1 : Int32)), (.int p1), (.int (1 : Int32)), (.ref b1)])) rfl (by rw [hml]; rfl) pd_3 rfl rfl (by show 2 * 0 + _ ≤ _; exact Nat.le_of_eq rfl) (hb hby at_24) e3 (by decide) (by decide) N3
  refine own_goW (T' := T4) (g' := (mkF m 27 #[.val (.int p0), .val (.int p1), .val (.int p2), .val (.int p3), .val (.ref b1), .unset, .unset, .unset, .unset, .unset, .unset, .unset, .unset, .unset, .unset] [(.int (f1_0 p1 (1 : Int32) p0 (8 : Int32))), (.int (1 : Int32)), (.ref b1)])) st4 ?_
  obtain ⟨c1, h_c1⟩ : ∃ z : Int32, z = (f1_0 p1 (1 : Int32) p0 (8 : Int32)) := ⟨_, rfl⟩
  rw [← h_c1]
  have n_c1 : nar .byte c1 = c1 := by rw [h_c1]; exact own_draw _ _ _ _
  obtain ⟨T5, h5, L5, X5, N5, e5, W5, Y5, st5⟩ := own_stB X4 hx hZ e4 V_b1_3 (j := (1 : Int32)) (by decide) 1 rfl (Nat.le_of_ble_eq_true rfl) N4 ga_b1 (g := (mkF m 27 #[.val (.int p0), .val (.int p1), .val (.int p2), .val (.int p3), .val (.ref b1), .unset, .unset, .unset, .unset, .unset, .unset, .unset, .unset, .unset, .unset] [(.int c1), (.int (1 : Int32)), (.ref b1)])) rfl rfl (hb hby at_27)
  rw [n_c1] at W5 Y5
  have V_b1_5 : Arv Z h5 b1 k1 .byte (4 : Int32) [(.int c0), (.int c1), (.int (0 : Int32)), (.int (0 : Int32))] (.int (0 : Int32)) := Y5
  have sz_5 := Nat.le_trans sz_3 (Nat.le_of_eq (Wr.size W5).symm)
  refine own_goW (T' := T5) (g' := (mkF m 28 #[.val (.int p0), .val (.int p1), .val (.int p2), .val (.int p3), .val (.ref b1), .unset, .unset, .unset, .unset, .unset, .unset, .unset, .unset, .unset, .unset] [])) st5 ?_
  refine own_goW (T' := T5) (g' := (mkF m 36 #[.val (.int p0), .val (.int p1), .val (.int p2), .val (.int p3), .val (.ref b1), .unset, .unset, .unset, .unset, .unset, .unset, .unset, .unset, .unset, .unset] [(.int (16 : Int32)), (.int p0), (.int (2 : Int32)), (.int p1), (.int (2 : Int32)), (.ref b1)])) (fun t k => ?_) ?_
  · show Steps p.tables e below (T5.setTop (mkF m 28 #[.val (.int p0), .val (.int p1), .val (.int p2), .val (.int p3), .val (.ref b1), .unset, .unset, .unset, .unset, .unset, .unset, .unset, .unset, .unset, .unset] [])) t
    refine XS.aload X5.here hx rfl (hb hby at_28) rfl rfl ?_
    show Steps p.tables e below (T5.setTop (mkF m 30 #[.val (.int p0), .val (.int p1), .val (.int p2), .val (.int p3), .val (.ref b1), .unset, .unset, .unset, .unset, .unset, .unset, .unset, .unset, .unset, .unset] [(.ref b1)])) _
    refine XS.iconst X5.here hx rfl (hb hby at_30) ?_
    show Steps p.tables e below (T5.setTop (mkF m 31 #[.val (.int p0), .val (.int p1), .val (.int p2), .val (.int p3), .val (.ref b1), .unset, .unset, .unset, .unset, .unset, .unset, .unset, .unset, .unset, .unset] [(.int (2 : Int32)), (.ref b1)])) _
    refine XS.iloadN X5.here hx rfl (hb hby at_31) rfl ?_
    show Steps p.tables e below (T5.setTop (mkF m 32 #[.val (.int p0), .val (.int p1), .val (.int p2), .val (.int p3), .val (.ref b1), .unset, .unset, .unset, .unset, .unset, .unset, .unset, .unset, .unset, .unset] [(.int p1), (.int (2 : Int32)), (.ref b1)])) _
    refine XS.iconst X5.here hx rfl (hb hby at_32) ?_
    show Steps p.tables e below (T5.setTop (mkF m 33 #[.val (.int p0), .val (.int p1), .val (.int p2), .val (.int p3), .val (.ref b1), .unset, .unset, .unset, .unset, .unset, .unset, .unset, .unset, .unset, .unset] [(.int (2 : Int32)), (.int p1), (.int (2 : Int32)), (.ref b1)])) _
    refine XS.iloadN X5.here hx rfl (hb hby at_33) rfl ?_
    show Steps p.tables e below (T5.setTop (mkF m 34 #[.val (.int p0), .val (.int p1), .val (.int p2), .val (.int p3), .val (.ref b1), .unset, .unset, .unset, .unset, .unset, .unset, .unset, .unset, .unset, .unset] [(.int p0), (.int (2 : Int32)), (.int p1), (.int (2 : Int32)), (.ref b1)])) _
    refine XS.bipush X5.here hx rfl (hb hby at_34) ?_
    show Steps p.tables e below (T5.setTop (mkF m 36 #[.val (.int p0), .val (.int p1), .val (.int p2), .val (.int p3), .val (.ref b1), .unset, .unset, .unset, .unset, .unset, .unset, .unset, .unset, .unset, .unset] [(.int (16 : Int32)), (.int p0), (.int (2 : Int32)), (.int p1), (.int (2 : Int32)), (.ref b1)])) _
    exact k
  obtain ⟨_, T6, L6, X6, N6, ⟨rfl, e6⟩, st6⟩ := own_callS X5 hx hZ hown (hw _ (List.mem_of_getElem? (i := 1) rfl)) (hw _ (List.mem_of_getElem? (i := 2) rfl)) (hw _ (List.mem_of_getElem? (i := 3) rfl)) (hw _ (List.mem_of_getElem? (i := 4) rfl)) (by decide) (argsL := [(.int p1), (.int (2 : Int32)), (.int p0), (.int (16 : Int32))]) (rest := [(.int (2 : Int32)), (.ref b1)]) (rm1 l Z a0 hw p1 (2 : Int32) p0 (16 : Int32) h5 n0) (W := 2) (by decide) (by decide) (g := (mkF m 36 #[.val (.int p0), .val (.int p1), .val (.int p2), .val (.int p3), .val (.ref b1), .unset, .unset, .unset, .unset, .unset, .unset, .unset, .unset, .unset, .unset] [(.int (16 : Int32)), (.int p0), (.int (2 : Int32)), (.int p1), (.int (2 : Int32)), (.ref b1)])) rfl (by rw [hml]; rfl) pd_3 rfl rfl (by show 2 * 0 + _ ≤ _; exact Nat.le_of_eq rfl) (hb hby at_36) e5 (by decide) (by decide) N5
  refine own_goW (T' := T6) (g' := (mkF m 39 #[.val (.int p0), .val (.int p1), .val (.int p2), .val (.int p3), .val (.ref b1), .unset, .unset, .unset, .unset, .unset, .unset, .unset, .unset, .unset, .unset] [(.int (f1_0 p1 (2 : Int32) p0 (16 : Int32))), (.int (2 : Int32)), (.ref b1)])) st6 ?_
  obtain ⟨c2, h_c2⟩ : ∃ z : Int32, z = (f1_0 p1 (2 : Int32) p0 (16 : Int32)) := ⟨_, rfl⟩
  rw [← h_c2]
  have n_c2 : nar .byte c2 = c2 := by rw [h_c2]; exact own_draw _ _ _ _
  obtain ⟨T7, h7, L7, X7, N7, e7, W7, Y7, st7⟩ := own_stB X6 hx hZ e6 V_b1_5 (j := (2 : Int32)) (by decide) 2 rfl (Nat.le_of_ble_eq_true rfl) N6 ga_b1 (g := (mkF m 39 #[.val (.int p0), .val (.int p1), .val (.int p2), .val (.int p3), .val (.ref b1), .unset, .unset, .unset, .unset, .unset, .unset, .unset, .unset, .unset, .unset] [(.int c2), (.int (2 : Int32)), (.ref b1)])) rfl rfl (hb hby at_39)
  rw [n_c2] at W7 Y7
  have V_b1_7 : Arv Z h7 b1 k1 .byte (4 : Int32) [(.int c0), (.int c1), (.int c2), (.int (0 : Int32))] (.int (0 : Int32)) := Y7
  have sz_7 := Nat.le_trans sz_5 (Nat.le_of_eq (Wr.size W7).symm)
  refine own_goW (T' := T7) (g' := (mkF m 40 #[.val (.int p0), .val (.int p1), .val (.int p2), .val (.int p3), .val (.ref b1), .unset, .unset, .unset, .unset, .unset, .unset, .unset, .unset, .unset, .unset] [])) st7 ?_
  refine own_goW (T' := T7) (g' := (mkF m 48 #[.val (.int p0), .val (.int p1), .val (.int p2), .val (.int p3), .val (.ref b1), .unset, .unset, .unset, .unset, .unset, .unset, .unset, .unset, .unset, .unset] [(.int (24 : Int32)), (.int p0), (.int (3 : Int32)), (.int p1), (.int (3 : Int32)), (.ref b1)])) (fun t k => ?_) ?_
  · show Steps p.tables e below (T7.setTop (mkF m 40 #[.val (.int p0), .val (.int p1), .val (.int p2), .val (.int p3), .val (.ref b1), .unset, .unset, .unset, .unset, .unset, .unset, .unset, .unset, .unset, .unset] [])) t
    refine XS.aload X7.here hx rfl (hb hby at_40) rfl rfl ?_
    show Steps p.tables e below (T7.setTop (mkF m 42 #[.val (.int p0), .val (.int p1), .val (.int p2), .val (.int p3), .val (.ref b1), .unset, .unset, .unset, .unset, .unset, .unset, .unset, .unset, .unset, .unset] [(.ref b1)])) _
    refine XS.iconst X7.here hx rfl (hb hby at_42) ?_
    show Steps p.tables e below (T7.setTop (mkF m 43 #[.val (.int p0), .val (.int p1), .val (.int p2), .val (.int p3), .val (.ref b1), .unset, .unset, .unset, .unset, .unset, .unset, .unset, .unset, .unset, .unset] [(.int (3 : Int32)), (.ref b1)])) _
    refine XS.iloadN X7.here hx rfl (hb hby at_43) rfl ?_
    show Steps p.tables e below (T7.setTop (mkF m 44 #[.val (.int p0), .val (.int p1), .val (.int p2), .val (.int p3), .val (.ref b1), .unset, .unset, .unset, .unset, .unset, .unset, .unset, .unset, .unset, .unset] [(.int p1), (.int (3 : Int32)), (.ref b1)])) _
    refine XS.iconst X7.here hx rfl (hb hby at_44) ?_
    show Steps p.tables e below (T7.setTop (mkF m 45 #[.val (.int p0), .val (.int p1), .val (.int p2), .val (.int p3), .val (.ref b1), .unset, .unset, .unset, .unset, .unset, .unset, .unset, .unset, .unset, .unset] [(.int (3 : Int32)), (.int p1), (.int (3 : Int32)), (.ref b1)])) _
    refine XS.iloadN X7.here hx rfl (hb hby at_45) rfl ?_
    show Steps p.tables e below (T7.setTop (mkF m 46 #[.val (.int p0), .val (.int p1), .val (.int p2), .val (.int p3), .val (.ref b1), .unset, .unset, .unset, .unset, .unset, .unset, .unset, .unset, .unset, .unset] [(.int p0), (.int (3 : Int32)), (.int p1), (.int (3 : Int32)), (.ref b1)])) _
    refine XS.bipush X7.here hx rfl (hb hby at_46) ?_
    show Steps p.tables e below (T7.setTop (mkF m 48 #[.val (.int p0), .val (.int p1), .val (.int p2), .val (.int p3), .val (.ref b1), .unset, .unset, .unset, .unset, .unset, .unset, .unset, .unset, .unset, .unset] [(.int (24 : Int32)), (.int p0), (.int (3 : Int32)), (.int p1), (.int (3 : Int32)), (.ref b1)])) _
    exact k
  obtain ⟨_, T8, L8, X8, N8, ⟨rfl, e8⟩, st8⟩ := own_callS X7 hx hZ hown (hw _ (List.mem_of_getElem? (i := 1) rfl)) (hw _ (List.mem_of_getElem? (i := 2) rfl)) (hw _ (List.mem_of_getElem? (i := 3) rfl)) (hw _ (List.mem_of_getElem? (i := 4) rfl)) (by decide) (argsL := [(.int p1), (.int (3 : Int32)), (.int p0), (.int (24 : Int32))]) (rest := [(.int (3 : Int32)), (.ref b1)]) (rm1 l Z a0 hw p1 (3 : Int32) p0 (24 : Int32) h7 n0) (W := 2) (by decide) (by decide) (g := (mkF m 48 #[.val (.int p0), .val (.int p1), .val (.int p2), .val (.int p3), .val (.ref b1), .unset, .unset, .unset, .unset, .unset, .unset, .unset, .unset, .unset, .unset] [(.int (24 : Int32)), (.int p0), (.int (3 : Int32)), (.int p1), (.int (3 : Int32)), (.ref b1)])) rfl (by rw [hml]; rfl) pd_3 rfl rfl (by show 2 * 0 + _ ≤ _; exact Nat.le_of_eq rfl) (hb hby at_48) e7 (by decide) (by decide) N7
  refine own_goW (T' := T8) (g' := (mkF m 51 #[.val (.int p0), .val (.int p1), .val (.int p2), .val (.int p3), .val (.ref b1), .unset, .unset, .unset, .unset, .unset, .unset, .unset, .unset, .unset, .unset] [(.int (f1_0 p1 (3 : Int32) p0 (24 : Int32))), (.int (3 : Int32)), (.ref b1)])) st8 ?_
  obtain ⟨c3, h_c3⟩ : ∃ z : Int32, z = (f1_0 p1 (3 : Int32) p0 (24 : Int32)) := ⟨_, rfl⟩
  rw [← h_c3]
  have n_c3 : nar .byte c3 = c3 := by rw [h_c3]; exact own_draw _ _ _ _
  obtain ⟨T9, h9, L9, X9, N9, e9, W9, Y9, st9⟩ := own_stB X8 hx hZ e8 V_b1_7 (j := (3 : Int32)) (by decide) 3 rfl (Nat.le_of_ble_eq_true rfl) N8 ga_b1 (g := (mkF m 51 #[.val (.int p0), .val (.int p1), .val (.int p2), .val (.int p3), .val (.ref b1), .unset, .unset, .unset, .unset, .unset, .unset, .unset, .unset, .unset, .unset] [(.int c3), (.int (3 : Int32)), (.ref b1)])) rfl rfl (hb hby at_51)
  rw [n_c3] at W9 Y9
  have V_b1_9 : Arv Z h9 b1 k1 .byte (4 : Int32) [(.int c0), (.int c1), (.int c2), (.int c3)] (.int (0 : Int32)) := Y9
  have sz_9 := Nat.le_trans sz_7 (Nat.le_of_eq (Wr.size W9).symm)
  refine own_goW (T' := T9) (g' := (mkF m 52 #[.val (.int p0), .val (.int p1), .val (.int p2), .val (.int p3), .val (.ref b1), .unset, .unset, .unset, .unset, .unset, .unset, .unset, .unset, .unset, .unset] [])) st9 ?_
  refine own_goW (T' := T9) (g' := (mkF m 57 #[.val (.int p0), .val (.int p1), .val (.int p2), .val (.int p3), .val (.ref b1), .val (.int (p2 &&& (1 : Int32))), .unset, .unset, .unset, .unset, .unset, .unset, .unset, .unset, .unset] [])) (fun t k => ?_) ?_
  · show Steps p.tables e below (T9.setTop (mkF m 52 #[.val (.int p0), .val (.int p1), .val (.int p2), .val (.int p3), .val (.ref b1), .unset, .unset, .unset, .unset, .unset, .unset, .unset, .unset, .unset, .unset] [])) t
    refine XS.iloadN X9.here hx rfl (hb hby at_52) rfl ?_
    show Steps p.tables e below (T9.setTop (mkF m 53 #[.val (.int p0), .val (.int p1), .val (.int p2), .val (.int p3), .val (.ref b1), .unset, .unset, .unset, .unset, .unset, .unset, .unset, .unset, .unset, .unset] [(.int p2)])) _
    refine XS.iconst X9.here hx rfl (hb hby at_53) ?_
    show Steps p.tables e below (T9.setTop (mkF m 54 #[.val (.int p0), .val (.int p1), .val (.int p2), .val (.int p3), .val (.ref b1), .unset, .unset, .unset, .unset, .unset, .unset, .unset, .unset, .unset, .unset] [(.int (1 : Int32)), (.int p2)])) _
    refine XS.iand X9.here hx rfl (hb hby at_54) rfl ?_
    show Steps p.tables e below (T9.setTop (mkF m 55 #[.val (.int p0), .val (.int p1), .val (.int p2), .val (.int p3), .val (.ref b1), .unset, .unset, .unset, .unset, .unset, .unset, .unset, .unset, .unset, .unset] [(.int (p2 &&& (1 : Int32)))])) _
    refine XS.istore X9.here hx rfl (hb hby at_55) rfl (l' := #[.val (.int p0), .val (.int p1), .val (.int p2), .val (.int p3), .val (.ref b1), .val (.int (p2 &&& (1 : Int32))), .unset, .unset, .unset, .unset, .unset, .unset, .unset, .unset, .unset]) rfl ?_
    show Steps p.tables e below (T9.setTop (mkF m 57 #[.val (.int p0), .val (.int p1), .val (.int p2), .val (.int p3), .val (.ref b1), .val (.int (p2 &&& (1 : Int32))), .unset, .unset, .unset, .unset, .unset, .unset, .unset, .unset, .unset] [])) _
    exact k
  obtain ⟨fv, h_fv⟩ : ∃ z : Int32, z = (p2 &&& (1 : Int32)) := ⟨_, rfl⟩
  rw [← h_fv]
  obtain ⟨fN, hfv, hf⟩ := own_fv p2 fv h_fv
  subst hfv
  refine own_goW (T' := T9) (g' := (mkF m 64 #[.val (.int p0), .val (.int p1), .val (.int p2), .val (.int p3), .val (.ref b1), .val (.int (Int32.ofNat fN)), .val (.int (((p2.toUInt32 >>> ((1 : Int32) &&& 31).toUInt32).toInt32) &&& (3 : Int32))), .unset, .unset, .unset, .unset, .unset, .unset, .unset, .unset] [])) (fun t k => ?_) ?_
  · show Steps p.tables e below (T9.setTop (mkF m 57 #[.val (.int p0), .val (.int p1), .val (.int p2), .val (.int p3), .val (.ref b1), .val (.int (Int32.ofNat fN)), .unset, .unset, .unset, .unset, .unset, .unset, .unset, .unset, .unset] [])) t
    refine XS.iloadN X9.here hx rfl (hb hby at_57) rfl ?_
    show Steps p.tables e below (T9.setTop (mkF m 58 #[.val (.int p0), .val (.int p1), .val (.int p2), .val (.int p3), .val (.ref b1), .val (.int (Int32.ofNat fN)), .unset, .unset, .unset, .unset, .unset, .unset, .unset, .unset, .unset] [(.int p2)])) _
    refine XS.iconst X9.here hx rfl (hb hby at_58) ?_
    show Steps p.tables e below (T9.setTop (mkF m 59 #[.val (.int p0), .val (.int p1), .val (.int p2), .val (.int p3), .val (.ref b1), .val (.int (Int32.ofNat fN)), .unset, .unset, .unset, .unset, .unset, .unset, .unset, .unset, .unset] [(.int (1 : Int32)), (.int p2)])) _
    refine XS.iushr X9.here hx rfl (hb hby at_59) rfl ?_
    show Steps p.tables e below (T9.setTop (mkF m 60 #[.val (.int p0), .val (.int p1), .val (.int p2), .val (.int p3), .val (.ref b1), .val (.int (Int32.ofNat fN)), .unset, .unset, .unset, .unset, .unset, .unset, .unset, .unset, .unset] [(.int ((p2.toUInt32 >>> ((1 : Int32) &&& 31).toUInt32).toInt32))])) _
    refine XS.iconst X9.here hx rfl (hb hby at_60) ?_
    show Steps p.tables e below (T9.setTop (mkF m 61 #[.val (.int p0), .val (.int p1), .val (.int p2), .val (.int p3), .val (.ref b1), .val (.int (Int32.ofNat fN)), .unset, .unset, .unset, .unset, .unset, .unset, .unset, .unset, .unset] [(.int (3 : Int32)), (.int ((p2.toUInt32 >>> ((1 : Int32) &&& 31).toUInt32).toInt32))])) _
    refine XS.iand X9.here hx rfl (hb hby at_61) rfl ?_
    show Steps p.tables e below (T9.setTop (mkF m 62 #[.val (.int p0), .val (.int p1), .val (.int p2), .val (.int p3), .val (.ref b1), .val (.int (Int32.ofNat fN)), .unset, .unset, .unset, .unset, .unset, .unset, .unset, .unset, .unset] [(.int (((p2.toUInt32 >>> ((1 : Int32) &&& 31).toUInt32).toInt32) &&& (3 : Int32)))])) _
    refine XS.istore X9.here hx rfl (hb hby at_62) rfl (l' := #[.val (.int p0), .val (.int p1), .val (.int p2), .val (.int p3), .val (.ref b1), .val (.int (Int32.ofNat fN)), .val (.int (((p2.toUInt32 >>> ((1 : Int32) &&& 31).toUInt32).toInt32) &&& (3 : Int32))), .unset, .unset, .unset, .unset, .unset, .unset, .unset, .unset]) rfl ?_
    show Steps p.tables e below (T9.setTop (mkF m 64 #[.val (.int p0), .val (.int p1), .val (.int p2), .val (.int p3), .val (.ref b1), .val (.int (Int32.ofNat fN)), .val (.int (((p2.toUInt32 >>> ((1 : Int32) &&& 31).toUInt32).toInt32) &&& (3 : Int32))), .unset, .unset, .unset, .unset, .unset, .unset, .unset, .unset] [])) _
    exact k
  obtain ⟨lv, h_lv⟩ : ∃ z : Int32, z = (((p2.toUInt32 >>> ((1 : Int32) &&& 31).toUInt32).toInt32) &&& (3 : Int32)) := ⟨_, rfl⟩
  rw [← h_lv]
  obtain ⟨lN, hlv, hl⟩ := own_lv p2 lv h_lv
  subst hlv
  obtain ⟨T10, h10, X10, e10, E10, A10, D10, -, st10⟩ := newO X9 hx hZ hown (hw _ (List.mem_of_getElem? (i := 5) rfl)) (hw _ (List.mem_of_getElem? (i := 6) rfl)) (hw _ (List.mem_of_getElem? (i := 7) rfl)) e9 (g := (mkF m 64 #[.val (.int p0), .val (.int p1), .val (.int p2), .val (.int p3), .val (.ref b1), .val (.int (Int32.ofNat fN)), .val (.int (Int32.ofNat lN)), .unset, .unset, .unset, .unset, .unset, .unset, .unset, .unset] [])) rfl (hb hby at_64) (by decide) (by decide)
  obtain ⟨b10, g10⟩ : ∃ z, z = h9.size := ⟨_, rfl⟩
  rw [← g10] at A10 D10 st10
  have lt_b1_b10 : b1 < b10 := Nat.lt_of_lt_of_le V_b1_9.lt (Nat.le_of_eq g10.symm)
  have ga_b10 : n0 ≤ b10 := Nat.le_trans sz_9 (Nat.le_of_eq g10.symm)
  have sz_10 := Nat.le_trans sz_9 E10.1
  have V_b1_10 := V_b1_9.ext E10
  have F_b10_tag_10 : Fld Z h10 b10 "com/example/encabeza/encabeza/model/Field" "tag" "Ljava/lang/String;" .null := D10 (Or.inr (hw _ (List.mem_of_getElem? (i := 22) rfl))) (ty := (.object "java/lang/String")) (by decide)
  have F_b10_data_10 : Fld Z h10 b10 "com/example/encabeza/encabeza/model/Field" "data" "[B" .null := D10 (Or.inr (hw _ (List.mem_of_getElem? (i := 42) rfl))) (ty := (.array .byte)) (by decide)
  refine own_goW (T' := T10) (g' := (mkF m 67 #[.val (.int p0), .val (.int p1), .val (.int p2), .val (.int p3), .val (.ref b1), .val (.int (Int32.ofNat fN)), .val (.int (Int32.ofNat lN)), .unset, .unset, .unset, .unset, .unset, .unset, .unset, .unset] [(.ref b10)])) st10 ?_
  refine own_goW (T' := T10) (g' := (mkF m 68 #[.val (.int p0), .val (.int p1), .val (.int p2), .val (.int p3), .val (.ref b1), .val (.int (Int32.ofNat fN)), .val (.int (Int32.ofNat lN)), .unset, .unset, .unset, .unset, .unset, .unset, .unset, .unset] [(.ref b10), (.ref b10)])) (fun t k => ?_) ?_
  · show Steps p.tables e below (T10.setTop (mkF m 67 #[.val (.int p0), .val (.int p1), .val (.int p2), .val (.int p3), .val (.ref b1), .val (.int (Int32.ofNat fN)), .val (.int (Int32.ofNat lN)), .unset, .unset, .unset, .unset, .unset, .unset, .unset, .unset] [(.ref b10)])) t
    refine XS.dup X10.here hx rfl (hb hby at_67) rfl rfl ?_
    show Steps p.tables e below (T10.setTop (mkF m 68 #[.val (.int p0), .val (.int p1), .val (.int p2), .val (.int p3), .val (.ref b1), .val (.int (Int32.ofNat fN)), .val (.int (Int32.ofNat lN)), .unset, .unset, .unset, .unset, .unset, .unset, .unset, .unset] [(.ref b10), (.ref b10)])) _
    exact k
  have hwS : ∀ d ∈ Bundle.stringAtoms, d.before a0 Z = true := by
    intro d hd
    simp only [Bundle.stringAtoms, List.mem_cons, List.not_mem_nil, or_false] at hd
    rcases hd with rfl | rfl | rfl | rfl | rfl | rfl | rfl
    all_goals first | exact (hw _ (List.mem_of_getElem? (i := 0) rfl)) | exact (hw _ (List.mem_of_getElem? (i := 9) rfl)) | exact (hw _ (List.mem_of_getElem? (i := 10) rfl)) | exact (hw _ (List.mem_of_getElem? (i := 11) rfl)) | exact (hw _ (List.mem_of_getElem? (i := 12) rfl)) | exact (hw _ (List.mem_of_getElem? (i := 13) rfl)) | exact (hw _ (List.mem_of_getElem? (i := 14) rfl))
  obtain ⟨as, T11, h11, kS, X11, e11, E11, hS, hkS, hZ11, hown11, st11⟩ := ldcS (s := s) (vm0 := s.vm) X10 hx hZ hown (hw _ (List.mem_of_getElem? (i := 8) rfl)) hwS e10 (k0 := 0) ((State.WarmedH.refl s).since 0) (Nat.zero_le _) (g := (mkF m 68 #[.val (.int p0), .val (.int p1), .val (.int p2), .val (.int p3), .val (.ref b1), .val (.int (Int32.ofNat fN)), .val (.int (Int32.ofNat lN)), .unset, .unset, .unset, .unset, .unset, .unset, .unset, .unset] [(.ref b10), (.ref b10)])) rfl (hb hby at_68) (n := 12) (by decide) (by decide) (by decide) (by decide)
  have hZ := hZ11
  have hown := hown11
  have sz_11 := Nat.le_trans sz_10 E11.1
  have V_b1_11 := V_b1_10.ext E11
  have E_b10_11 := Exa.ext E11 A10
  have F_b10_tag_11 := Fld.ext E11 F_b10_tag_10
  have F_b10_data_11 := Fld.ext E11 F_b10_data_10
  refine own_goW (T' := T11) (g' := (mkF m 70 #[.val (.int p0), .val (.int p1), .val (.int p2), .val (.int p3), .val (.ref b1), .val (.int (Int32.ofNat fN)), .val (.int (Int32.ofNat lN)), .unset, .unset, .unset, .unset, .unset, .unset, .unset, .unset] [(.ref as), (.ref b10), (.ref b10)])) st11 ?_
  refine own_goW (T' := T11) (g' := (mkF m 79 #[.val (.int p0), .val (.int p1), .val (.int p2), .val (.int p3), .val (.ref b1), .val (.int (Int32.ofNat fN)), .val (.int (Int32.ofNat lN)), .unset, .unset, .unset, .unset, .unset, .unset, .unset, .unset] [(.int ((Int32.ofNat fN) + (Int32.ofNat lN))), (.int (Int32.ofNat fN)), (.ref b1), (.ref as), (.ref b10), (.ref b10)])) (fun t k => ?_) ?_
  · show Steps p.tables e below (T11.setTop (mkF m 70 #[.val (.int p0), .val (.int p1), .val (.int p2), .val (.int p3), .val (.ref b1), .val (.int (Int32.ofNat fN)), .val (.int (Int32.ofNat lN)), .unset, .unset, .unset, .unset, .unset, .unset, .unset, .unset] [(.ref as), (.ref b10), (.ref b10)])) t
    refine XS.aload X11.here hx rfl (hb hby at_70) rfl rfl ?_
    show Steps p.tables e below (T11.setTop (mkF m 72 #[.val (.int p0), .val (.int p1), .val (.int p2), .val (.int p3), .val (.ref b1), .val (.int (Int32.ofNat fN)), .val (.int (Int32.ofNat lN)), .unset, .unset, .unset, .unset, .unset, .unset, .unset, .unset] [(.ref b1), (.ref as), (.ref b10), (.ref b10)])) _
    refine XS.iload X11.here hx rfl (hb hby at_72) rfl ?_
    show Steps p.tables e below (T11.setTop (mkF m 74 #[.val (.int p0), .val (.int p1), .val (.int p2), .val (.int p3), .val (.ref b1), .val (.int (Int32.ofNat fN)), .val (.int (Int32.ofNat lN)), .unset, .unset, .unset, .unset, .unset, .unset, .unset, .unset] [(.int (Int32.ofNat fN)), (.ref b1), (.ref as), (.ref b10), (.ref b10)])) _
    refine XS.iload X11.here hx rfl (hb hby at_74) rfl ?_
    show Steps p.tables e below (T11.setTop (mkF m 76 #[.val (.int p0), .val (.int p1), .val (.int p2), .val (.int p3), .val (.ref b1), .val (.int (Int32.ofNat fN)), .val (.int (Int32.ofNat lN)), .unset, .unset, .unset, .unset, .unset, .unset, .unset, .unset] [(.int (Int32.ofNat fN)), (.int (Int32.ofNat fN)), (.ref b1), (.ref as), (.ref b10), (.ref b10)])) _
    refine XS.iload X11.here hx rfl (hb hby at_76) rfl ?_
    show Steps p.tables e below (T11.setTop (mkF m 78 #[.val (.int p0), .val (.int p1), .val (.int p2), .val (.int p3), .val (.ref b1), .val (.int (Int32.ofNat fN)), .val (.int (Int32.ofNat lN)), .unset, .unset, .unset, .unset, .unset, .unset, .unset, .unset] [(.int (Int32.ofNat lN)), (.int (Int32.ofNat fN)), (.int (Int32.ofNat fN)), (.ref b1), (.ref as), (.ref b10), (.ref b10)])) _
    refine XS.iadd X11.here hx rfl (hb hby at_78) rfl ?_
    show Steps p.tables e below (T11.setTop (mkF m 79 #[.val (.int p0), .val (.int p1), .val (.int p2), .val (.int p3), .val (.ref b1), .val (.int (Int32.ofNat fN)), .val (.int (Int32.ofNat lN)), .unset, .unset, .unset, .unset, .unset, .unset, .unset, .unset] [(.int ((Int32.ofNat fN) + (Int32.ofNat lN))), (.int (Int32.ofNat fN)), (.ref b1), (.ref as), (.ref b10), (.ref b10)])) _
    exact k
  obtain ⟨_, T12, L12, X12, N12, ⟨rfl, Q12k, Q12e, bq, kq, Q12d, Q12v⟩, st12⟩ := own_callI X11 hx hZ rfl hown (hw _ (List.mem_of_getElem? (i := 15) rfl)) (hw _ (List.mem_of_getElem? (i := 16) rfl)) (hw _ (List.mem_of_getElem? (i := 7) rfl)) (hw _ (List.mem_of_getElem? (i := 17) rfl)) (by decide) (a := b10) (argsL := [(.ref as), (.ref b1), (.int (Int32.ofNat fN)), (.int ((Int32.ofNat fN) + (Int32.ofNat lN)))]) (rest := [(.ref b10)]) (rm2 l Z a0 hw b10 as b1 (Int32.ofNat fN) ((Int32.ofNat fN) + (Int32.ofNat lN)) k1 [(.int c0), (.int c1), (.int c2), (.int c3)] fN lN h11 n0 sz_11 ga_b10 V_b1_11 lt_b1_b10 E_b10_11 F_b10_tag_11 F_b10_data_11 rfl (own_addN fN lN) hf hl) (W := 1) (by decide) (by decide) (g := (mkF m 79 #[.val (.int p0), .val (.int p1), .val (.int p2), .val (.int p3), .val (.ref b1), .val (.int (Int32.ofNat fN)), .val (.int (Int32.ofNat lN)), .unset, .unset, .unset, .unset, .unset, .unset, .unset, .unset] [(.int ((Int32.ofNat fN) + (Int32.ofNat lN))), (.int (Int32.ofNat fN)), (.ref b1), (.ref as), (.ref b10), (.ref b10)])) rfl (by rw [hml]; rfl) pd_4 rfl rfl (by show 2 * 0 + _ ≤ _; exact Nat.le_of_eq rfl) (hb hby at_79) e11 (by decide) (by decide) N9
  have V_b1_12 := V_b1_11.keep Q12k (ninS (Nat.ne_of_lt lt_b1_b10) nin0)
  have E_b10_12 := Exa.keep E_b10_11 Q12k
  have sz_12 := Nat.le_trans sz_11 Q12k.1
  have sy_12 := Nat.le_trans hkS Q12k.1
  refine own_goW (T' := T12) (g' := (mkF m 82 #[.val (.int p0), .val (.int p1), .val (.int p2), .val (.int p3), .val (.ref b1), .val (.int (Int32.ofNat fN)), .val (.int (Int32.ofNat lN)), .unset, .unset, .unset, .unset, .unset, .unset, .unset, .unset] [(.ref b10)])) st12 ?_
  refine own_goW (T' := T12) (g' := (mkF m 89 #[.val (.int p0), .val (.int p1), .val (.int p2), .val (.int p3), .val (.ref b1), .val (.int (Int32.ofNat fN)), .val (.int (Int32.ofNat lN)), .val (.ref b10), .val (.int (p3 &&& (1 : Int32))), .unset, .unset, .unset, .unset, .unset, .unset] [])) (fun t k => ?_) ?_
  · show Steps p.tables e below (T12.setTop (mkF m 82 #[.val (.int p0), .val (.int p1), .val (.int p2), .val (.int p3), .val (.ref b1), .val (.int (Int32.ofNat fN)), .val (.int (Int32.ofNat lN)), .unset, .unset, .unset, .unset, .unset, .unset, .unset, .unset] [(.ref b10)])) t
    refine XS.astore X12.here hx rfl (hb hby at_82) rfl rfl (l' := #[.val (.int p0), .val (.int p1), .val (.int p2), .val (.int p3), .val (.ref b1), .val (.int (Int32.ofNat fN)), .val (.int (Int32.ofNat lN)), .val (.ref b10), .unset, .unset, .unset, .unset, .unset, .unset, .unset]) rfl ?_
    show Steps p.tables e below (T12.setTop (mkF m 84 #[.val (.int p0), .val (.int p1), .val (.int p2), .val (.int p3), .val (.ref b1), .val (.int (Int32.ofNat fN)), .val (.int (Int32.ofNat lN)), .val (.ref b10), .unset, .unset, .unset, .unset, .unset, .unset, .unset] [])) _
    refine XS.iloadN X12.here hx rfl (hb hby at_84) rfl ?_
    show Steps p.tables e below (T12.setTop (mkF m 85 #[.val (.int p0), .val (.int p1), .val (.int p2), .val (.int p3), .val (.ref b1), .val (.int (Int32.ofNat fN)), .val (.int (Int32.ofNat lN)), .val (.ref b10), .unset, .unset, .unset, .unset, .unset, .unset, .unset] [(.int p3)])) _
    refine XS.iconst X12.here hx rfl (hb hby at_85) ?_
    show Steps p.tables e below (T12.setTop (mkF m 86 #[.val (.int p0), .val (.int p1), .val (.int p2), .val (.int p3), .val (.ref b1), .val (.int (Int32.ofNat fN)), .val (.int (Int32.ofNat lN)), .val (.ref b10), .unset, .unset, .unset, .unset, .unset, .unset, .unset] [(.int (1 : Int32)), (.int p3)])) _
    refine XS.iand X12.here hx rfl (hb hby at_86) rfl ?_
    show Steps p.tables e below (T12.setTop (mkF m 87 #[.val (.int p0), .val (.int p1), .val (.int p2), .val (.int p3), .val (.ref b1), .val (.int (Int32.ofNat fN)), .val (.int (Int32.ofNat lN)), .val (.ref b10), .unset, .unset, .unset, .unset, .unset, .unset, .unset] [(.int (p3 &&& (1 : Int32)))])) _
    refine XS.istore X12.here hx rfl (hb hby at_87) rfl (l' := #[.val (.int p0), .val (.int p1), .val (.int p2), .val (.int p3), .val (.ref b1), .val (.int (Int32.ofNat fN)), .val (.int (Int32.ofNat lN)), .val (.ref b10), .val (.int (p3 &&& (1 : Int32))), .unset, .unset, .unset, .unset, .unset, .unset]) rfl ?_
    show Steps p.tables e below (T12.setTop (mkF m 89 #[.val (.int p0), .val (.int p1), .val (.int p2), .val (.int p3), .val (.ref b1), .val (.int (Int32.ofNat fN)), .val (.int (Int32.ofNat lN)), .val (.ref b10), .val (.int (p3 &&& (1 : Int32))), .unset, .unset, .unset, .unset, .unset, .unset] [])) _
    exact k
  obtain ⟨pv, h_pv⟩ : ∃ z : Int32, z = (p3 &&& (1 : Int32)) := ⟨_, rfl⟩
  rw [← h_pv]
  rcases own_pv p3 pv h_pv with rfl | rfl
  · refine own_goW (T' := T12) (g' := (mkF m 93 #[.val (.int p0), .val (.int p1), .val (.int p2), .val (.int p3), .val (.ref b1), .val (.int (Int32.ofNat fN)), .val (.int (Int32.ofNat lN)), .val (.ref b10), .val (.int (0 : Int32)), .unset, .unset, .unset, .unset, .unset, .unset] [(.int (0 : Int32)), (.ref b10)])) (fun t k => ?_) ?_
    · show Steps p.tables e below (T12.setTop (mkF m 89 #[.val (.int p0), .val (.int p1), .val (.int p2), .val (.int p3), .val (.ref b1), .val (.int (Int32.ofNat fN)), .val (.int (Int32.ofNat lN)), .val (.ref b10), .val (.int (0 : Int32)), .unset, .unset, .unset, .unset, .unset, .unset] [])) t
      refine XS.aload X12.here hx rfl (hb hby at_89) rfl rfl ?_
      show Steps p.tables e below (T12.setTop (mkF m 91 #[.val (.int p0), .val (.int p1), .val (.int p2), .val (.int p3), .val (.ref b1), .val (.int (Int32.ofNat fN)), .val (.int (Int32.ofNat lN)), .val (.ref b10), .val (.int (0 : Int32)), .unset, .unset, .unset, .unset, .unset, .unset] [(.ref b10)])) _
      refine XS.iload X12.here hx rfl (hb hby at_91) rfl ?_
      show Steps p.tables e below (T12.setTop (mkF m 93 #[.val (.int p0), .val (.int p1), .val (.int p2), .val (.int p3), .val (.ref b1), .val (.int (Int32.ofNat fN)), .val (.int (Int32.ofNat lN)), .val (.ref b10), .val (.int (0 : Int32)), .unset, .unset, .unset, .unset, .unset, .unset] [(.int (0 : Int32)), (.ref b10)])) _
      exact k
    obtain ⟨_, T13, L13, X13, N13, ⟨rfl, e13⟩, st13⟩ := own_callV X12 hx hZ hown (hw _ (List.mem_of_getElem? (i := 43) rfl)) (hw _ (List.mem_of_getElem? (i := 44) rfl)) (hw _ (List.mem_of_getElem? (i := 46) rfl)) (hw _ (List.mem_of_getElem? (i := 45) rfl)) (hw _ (List.mem_of_getElem? (i := 7) rfl)) (hw _ (List.mem_of_getElem? (i := 47) rfl)) (by decide) (a := b10) (argsL := [(.int (0 : Int32))]) (rest := []) (rm8_0 l Z a0 hw b10 (0 : Int32) bq kq (own_us [(.int c0), (.int c1), (.int c2), (.int c3)] fN lN) lN ([c0, c1, c2, c3].getD fN 0) ([c0, c1, c2, c3].getD (fN + 1) 0) T12.heap n0 Q12e Q12d Q12v rfl hl (own_u0 [c0, c1, c2, c3]) (own_u1 [c0, c1, c2, c3])) (W := 0) (by decide) (by decide) Q12e (g := (mkF m 93 #[.val (.int p0), .val (.int p1), .val (.int p2), .val (.int p3), .val (.ref b1), .val (.int (Int32.ofNat fN)), .val (.int (Int32.ofNat lN)), .val (.ref b10), .val (.int (0 : Int32)), .unset, .unset, .unset, .unset, .unset, .unset] [(.int (0 : Int32)), (.ref b10)])) rfl (by rw [hml]; rfl) pd_5 rfl rfl (by show 2 * 0 + _ ≤ _; exact Nat.le_of_eq rfl) (hb hby at_93) rfl (by decide) (by decide) N12
    refine own_goW (T' := T13) (g' := (mkF m 96 #[.val (.int p0), .val (.int p1), .val (.int p2), .val (.int p3), .val (.ref b1), .val (.int (Int32.ofNat fN)), .val (.int (Int32.ofNat lN)), .val (.ref b10), .val (.int (0 : Int32)), .unset, .unset, .unset, .unset, .unset, .unset] [(.int (own_ind lN ([c0, c1, c2, c3].getD fN 0) ([c0, c1, c2, c3].getD (fN + 1) 0) 0))])) st13 ?_
    refine own_goW (T' := T13) (g' := (mkF m 111 #[.val (.int p0), .val (.int p1), .val (.int p2), .val (.int p3), .val (.ref b1), .val (.int (Int32.ofNat fN)), .val (.int (Int32.ofNat lN)), .val (.ref b10), .val (.int (0 : Int32)), .val (.int (own_ind lN ([c0, c1, c2, c3].getD fN 0) ([c0, c1, c2, c3].getD (fN + 1) 0) 0)), .val (.int ([c0, c1, c2, c3].getD fN 0)), .unset, .unset, .unset, .unset] [(.int ((Int32.ofNat fN) + (1 : Int32))), (.ref b1)])) (fun t k => ?_) ?_
    · show Steps p.tables e below (T13.setTop (mkF m 96 #[.val (.int p0), .val (.int p1), .val (.int p2), .val (.int p3), .val (.ref b1), .val (.int (Int32.ofNat fN)), .val (.int (Int32.ofNat lN)), .val (.ref b10), .val (.int (0 : Int32)), .unset, .unset, .unset, .unset, .unset, .unset] [(.int (own_ind lN ([c0, c1, c2, c3].getD fN 0) ([c0, c1, c2, c3].getD (fN + 1) 0) 0))])) t
      refine XS.istore X13.here hx rfl (hb hby at_96) rfl (l' := #[.val (.int p0), .val (.int p1), .val (.int p2), .val (.int p3), .val (.ref b1), .val (.int (Int32.ofNat fN)), .val (.int (Int32.ofNat lN)), .val (.ref b10), .val (.int (0 : Int32)), .val (.int (own_ind lN ([c0, c1, c2, c3].getD fN 0) ([c0, c1, c2, c3].getD (fN + 1) 0) 0)), .unset, .unset, .unset, .unset, .unset]) rfl ?_
      show Steps p.tables e below (T13.setTop (mkF m 98 #[.val (.int p0), .val (.int p1), .val (.int p2), .val (.int p3), .val (.ref b1), .val (.int (Int32.ofNat fN)), .val (.int (Int32.ofNat lN)), .val (.ref b10), .val (.int (0 : Int32)), .val (.int (own_ind lN ([c0, c1, c2, c3].getD fN 0) ([c0, c1, c2, c3].getD (fN + 1) 0) 0)), .unset, .unset, .unset, .unset, .unset] [])) _
      refine XS.aload X13.here hx rfl (hb hby at_98) rfl rfl ?_
      show Steps p.tables e below (T13.setTop (mkF m 100 #[.val (.int p0), .val (.int p1), .val (.int p2), .val (.int p3), .val (.ref b1), .val (.int (Int32.ofNat fN)), .val (.int (Int32.ofNat lN)), .val (.ref b10), .val (.int (0 : Int32)), .val (.int (own_ind lN ([c0, c1, c2, c3].getD fN 0) ([c0, c1, c2, c3].getD (fN + 1) 0) 0)), .unset, .unset, .unset, .unset, .unset] [(.ref b1)])) _
      refine XS.iload X13.here hx rfl (hb hby at_100) rfl ?_
      show Steps p.tables e below (T13.setTop (mkF m 102 #[.val (.int p0), .val (.int p1), .val (.int p2), .val (.int p3), .val (.ref b1), .val (.int (Int32.ofNat fN)), .val (.int (Int32.ofNat lN)), .val (.ref b10), .val (.int (0 : Int32)), .val (.int (own_ind lN ([c0, c1, c2, c3].getD fN 0) ([c0, c1, c2, c3].getD (fN + 1) 0) 0)), .unset, .unset, .unset, .unset, .unset] [(.int (Int32.ofNat fN)), (.ref b1)])) _
      refine own_ldB X13 hx hZ e13 V_b1_12 (j := (Int32.ofNat fN)) (own_k4 (by omega)) (v := (.int ([c0, c1, c2, c3].getD fN 0))) (own_gd [c0, c1, c2, c3] (by omega)) (g := (mkF m 102 #[.val (.int p0), .val (.int p1), .val (.int p2), .val (.int p3), .val (.ref b1), .val (.int (Int32.ofNat fN)), .val (.int (Int32.ofNat lN)), .val (.ref b10), .val (.int (0 : Int32)), .val (.int (own_ind lN ([c0, c1, c2, c3].getD fN 0) ([c0, c1, c2, c3].getD (fN + 1) 0) 0)), .unset, .unset, .unset, .unset, .unset] [(.int (Int32.ofNat fN)), (.ref b1)])) rfl rfl (hb hby at_102) _ ?_
      show Steps p.tables e below (T13.setTop (mkF m 103 #[.val (.int p0), .val (.int p1), .val (.int p2), .val (.int p3), .val (.ref b1), .val (.int (Int32.ofNat fN)), .val (.int (Int32.ofNat lN)), .val (.ref b10), .val (.int (0 : Int32)), .val (.int (own_ind lN ([c0, c1, c2, c3].getD fN 0) ([c0, c1, c2, c3].getD (fN + 1) 0) 0)), .unset, .unset, .unset, .unset, .unset] [(.int ([c0, c1, c2, c3].getD fN 0))])) _
      refine XS.istore X13.here hx rfl (hb hby at_103) rfl (l' := #[.val (.int p0), .val (.int p1), .val (.int p2), .val (.int p3), .val (.ref b1), .val (.int (Int32.ofNat fN)), .val (.int (Int32.ofNat lN)), .val (.ref b10), .val (.int (0 : Int32)), .val (.int (own_ind lN ([c0, c1, c2, c3].getD fN 0) ([c0, c1, c2, c3].getD (fN + 1) 0) 0)), .val (.int ([c0, c1, c2, c3].getD fN 0)), .unset, .unset, .unset, .unset]) rfl ?_
      show Steps p.tables e below (T13.setTop (mkF m 105 #[.val (.int p0), .val (.int p1), .val (.int p2), .val (.int p3), .val (.ref b1), .val (.int (Int32.ofNat fN)), .val (.int (Int32.ofNat lN)), .val (.ref b10), .val (.int (0 : Int32)), .val (.int (own_ind lN ([c0, c1, c2, c3].getD fN 0) ([c0, c1, c2, c3].getD (fN + 1) 0) 0)), .val (.int ([c0, c1, c2, c3].getD fN 0)), .unset, .unset, .unset, .unset] [])) _
      refine XS.aload X13.here hx rfl (hb hby at_105) rfl rfl ?_
      show Steps p.tables e below (T13.setTop (mkF m 107 #[.val (.int p0), .val (.int p1), .val (.int p2), .val (.int p3), .val (.ref b1), .val (.int (Int32.ofNat fN)), .val (.int (Int32.ofNat lN)), .val (.ref b10), .val (.int (0 : Int32)), .val (.int (own_ind lN ([c0, c1, c2, c3].getD fN 0) ([c0, c1, c2, c3].getD (fN + 1) 0) 0)), .val (.int ([c0, c1, c2, c3].getD fN 0)), .unset, .unset, .unset, .unset] [(.ref b1)])) _
      refine XS.iload X13.here hx rfl (hb hby at_107) rfl ?_
      show Steps p.tables e below (T13.setTop (mkF m 109 #[.val (.int p0), .val (.int p1), .val (.int p2), .val (.int p3), .val (.ref b1), .val (.int (Int32.ofNat fN)), .val (.int (Int32.ofNat lN)), .val (.ref b10), .val (.int (0 : Int32)), .val (.int (own_ind lN ([c0, c1, c2, c3].getD fN 0) ([c0, c1, c2, c3].getD (fN + 1) 0) 0)), .val (.int ([c0, c1, c2, c3].getD fN 0)), .unset, .unset, .unset, .unset] [(.int (Int32.ofNat fN)), (.ref b1)])) _
      refine XS.iconst X13.here hx rfl (hb hby at_109) ?_
      show Steps p.tables e below (T13.setTop (mkF m 110 #[.val (.int p0), .val (.int p1), .val (.int p2), .val (.int p3), .val (.ref b1), .val (.int (Int32.ofNat fN)), .val (.int (Int32.ofNat lN)), .val (.ref b10), .val (.int (0 : Int32)), .val (.int (own_ind lN ([c0, c1, c2, c3].getD fN 0) ([c0, c1, c2, c3].getD (fN + 1) 0) 0)), .val (.int ([c0, c1, c2, c3].getD fN 0)), .unset, .unset, .unset, .unset] [(.int (1 : Int32)), (.int (Int32.ofNat fN)), (.ref b1)])) _
      refine XS.iadd X13.here hx rfl (hb hby at_110) rfl ?_
      show Steps p.tables e below (T13.setTop (mkF m 111 #[.val (.int p0), .val (.int p1), .val (.int p2), .val (.int p3), .val (.ref b1), .val (.int (Int32.ofNat fN)), .val (.int (Int32.ofNat lN)), .val (.ref b10), .val (.int (0 : Int32)), .val (.int (own_ind lN ([c0, c1, c2, c3].getD fN 0) ([c0, c1, c2, c3].getD (fN + 1) 0) 0)), .val (.int ([c0, c1, c2, c3].getD fN 0)), .unset, .unset, .unset, .unset] [(.int ((Int32.ofNat fN) + (1 : Int32))), (.ref b1)])) _
      exact k
    rw [own_inc]
    refine own_goW (T' := T13) (g' := (mkF m 116 #[.val (.int p0), .val (.int p1), .val (.int p2), .val (.int p3), .val (.ref b1), .val (.int (Int32.ofNat fN)), .val (.int (Int32.ofNat lN)), .val (.ref b10), .val (.int (0 : Int32)), .val (.int (own_ind lN ([c0, c1, c2, c3].getD fN 0) ([c0, c1, c2, c3].getD (fN + 1) 0) 0)), .val (.int ([c0, c1, c2, c3].getD fN 0)), .val (.int ([c0, c1, c2, c3].getD (fN + 1) 0)), .unset, .unset, .unset] [(.int (Int32.ofNat lN))])) (fun t k => ?_) ?_
    · show Steps p.tables e below (T13.setTop (mkF m 111 #[.val (.int p0), .val (.int p1), .val (.int p2), .val (.int p3), .val (.ref b1), .val (.int (Int32.ofNat fN)), .val (.int (Int32.ofNat lN)), .val (.ref b10), .val (.int (0 : Int32)), .val (.int (own_ind lN ([c0, c1, c2, c3].getD fN 0) ([c0, c1, c2, c3].getD (fN + 1) 0) 0)), .val (.int ([c0, c1, c2, c3].getD fN 0)), .unset, .unset, .unset, .unset] [(.int (Int32.ofNat (fN + 1))), (.ref b1)])) t
      refine own_ldB X13 hx hZ e13 V_b1_12 (j := (Int32.ofNat (fN + 1))) (own_k4 (by omega)) (v := (.int ([c0, c1, c2, c3].getD (fN + 1) 0))) (own_gd [c0, c1, c2, c3] (by omega)) (g := (mkF m 111 #[.val (.int p0), .val (.int p1), .val (.int p2), .val (.int p3), .val (.ref b1), .val (.int (Int32.ofNat fN)), .val (.int (Int32.ofNat lN)), .val (.ref b10), .val (.int (0 : Int32)), .val (.int (own_ind lN ([c0, c1, c2, c3].getD fN 0) ([c0, c1, c2, c3].getD (fN + 1) 0) 0)), .val (.int ([c0, c1, c2, c3].getD fN 0)), .unset, .unset, .unset, .unset] [(.int (Int32.ofNat (fN + 1))), (.ref b1)])) rfl rfl (hb hby at_111) _ ?_
      show Steps p.tables e below (T13.setTop (mkF m 112 #[.val (.int p0), .val (.int p1), .val (.int p2), .val (.int p3), .val (.ref b1), .val (.int (Int32.ofNat fN)), .val (.int (Int32.ofNat lN)), .val (.ref b10), .val (.int (0 : Int32)), .val (.int (own_ind lN ([c0, c1, c2, c3].getD fN 0) ([c0, c1, c2, c3].getD (fN + 1) 0) 0)), .val (.int ([c0, c1, c2, c3].getD fN 0)), .unset, .unset, .unset, .unset] [(.int ([c0, c1, c2, c3].getD (fN + 1) 0))])) _
      refine XS.istore X13.here hx rfl (hb hby at_112) rfl (l' := #[.val (.int p0), .val (.int p1), .val (.int p2), .val (.int p3), .val (.ref b1), .val (.int (Int32.ofNat fN)), .val (.int (Int32.ofNat lN)), .val (.ref b10), .val (.int (0 : Int32)), .val (.int (own_ind lN ([c0, c1, c2, c3].getD fN 0) ([c0, c1, c2, c3].getD (fN + 1) 0) 0)), .val (.int ([c0, c1, c2, c3].getD fN 0)), .val (.int ([c0, c1, c2, c3].getD (fN + 1) 0)), .unset, .unset, .unset]) rfl ?_
      show Steps p.tables e below (T13.setTop (mkF m 114 #[.val (.int p0), .val (.int p1), .val (.int p2), .val (.int p3), .val (.ref b1), .val (.int (Int32.ofNat fN)), .val (.int (Int32.ofNat lN)), .val (.ref b10), .val (.int (0 : Int32)), .val (.int (own_ind lN ([c0, c1, c2, c3].getD fN 0) ([c0, c1, c2, c3].getD (fN + 1) 0) 0)), .val (.int ([c0, c1, c2, c3].getD fN 0)), .val (.int ([c0, c1, c2, c3].getD (fN + 1) 0)), .unset, .unset, .unset] [])) _
      refine XS.iload X13.here hx rfl (hb hby at_114) rfl ?_
      show Steps p.tables e below (T13.setTop (mkF m 116 #[.val (.int p0), .val (.int p1), .val (.int p2), .val (.int p3), .val (.ref b1), .val (.int (Int32.ofNat fN)), .val (.int (Int32.ofNat lN)), .val (.ref b10), .val (.int (0 : Int32)), .val (.int (own_ind lN ([c0, c1, c2, c3].getD fN 0) ([c0, c1, c2, c3].getD (fN + 1) 0) 0)), .val (.int ([c0, c1, c2, c3].getD fN 0)), .val (.int ([c0, c1, c2, c3].getD (fN + 1) 0)), .unset, .unset, .unset] [(.int (Int32.ofNat lN))])) _
      exact k
    suffices w16 : ∀ (T16 : State) (L16 : List Loc) (X16 : Stand p l e room_1 (s.setVm T11.vm) m #[(.int p0), (.int p1), (.int p2), (.int p3)] below meth c T16 L16 5 26) (e16 : T16.heap = T12.heap) (N16 : Fr n0 L16) (b16_s0 : Int32) (h_b16_s0 : b16_s0 = (if (0 : Int32) < (Int32.ofNat lN) then (if ([c0, c1, c2, c3].getD fN 0) = (31 : Int32) then (0 : Int32) else (1 : Int32)) else (0 : Int32))), own_EndsW p e below s n0 room_1.cells room_1.slots T16 (mkF m 131 #[.val (.int p0), .val (.int p1), .val (.int p2), .val (.int p3), .val (.ref b1), .val (.int (Int32.ofNat fN)), .val (.int (Int32.ofNat lN)), .val (.ref b10), .val (.int (0 : Int32)), .val (.int (own_ind lN ([c0, c1, c2, c3].getD fN 0) ([c0, c1, c2, c3].getD (fN + 1) 0) 0)), .val (.int ([c0, c1, c2, c3].getD fN 0)), .val (.int ([c0, c1, c2, c3].getD (fN + 1) 0)), .unset, .unset, .unset] [(.int b16_s0)]) own_Q0 by
      by_cases hm116_14 : (0 : Int32) < (Int32.ofNat lN)
      · refine own_goW (T' := T13) (g' := (mkF m 119 #[.val (.int p0), .val (.int p1), .val (.int p2), .val (.int p3), .val (.ref b1), .val (.int (Int32.ofNat fN)), .val (.int (Int32.ofNat lN)), .val (.ref b10), .val (.int (0 : Int32)), .val (.int (own_ind lN ([c0, c1, c2, c3].getD fN 0) ([c0, c1, c2, c3].getD (fN + 1) 0) 0)), .val (.int ([c0, c1, c2, c3].getD fN 0)), .val (.int ([c0, c1, c2, c3].getD (fN + 1) 0)), .unset, .unset, .unset] [])) (fun t k => ?_) ?_
        · refine XS.ifNo X13.here hx rfl (hb hby at_116) rfl ((if0 _ _).trans (tlt hm116_14).2.2.2) ?_
          exact k
        refine own_goW (T' := T13) (g' := (mkF m 123 #[.val (.int p0), .val (.int p1), .val (.int p2), .val (.int p3), .val (.ref b1), .val (.int (Int32.ofNat fN)), .val (.int (Int32.ofNat lN)), .val (.ref b10), .val (.int (0 : Int32)), .val (.int (own_ind lN ([c0, c1, c2, c3].getD fN 0) ([c0, c1, c2, c3].getD (fN + 1) 0) 0)), .val (.int ([c0, c1, c2, c3].getD fN 0)), .val (.int ([c0, c1, c2, c3].getD (fN + 1) 0)), .unset, .unset, .unset] [(.int (31 : Int32)), (.int ([c0, c1, c2, c3].getD fN 0))])) (fun t k => ?_) ?_
        · show Steps p.tables e below (T13.setTop (mkF m 119 #[.val (.int p0), .val (.int p1), .val (.int p2), .val (.int p3), .val (.ref b1), .val (.int (Int32.ofNat fN)), .val (.int (Int32.ofNat lN)), .val (.ref b10), .val (.int (0 : Int32)), .val (.int (own_ind lN ([c0, c1, c2, c3].getD fN 0) ([c0, c1, c2, c3].getD (fN + 1) 0) 0)), .val (.int ([c0, c1, c2, c3].getD fN 0)), .val (.int ([c0, c1, c2, c3].getD (fN + 1) 0)), .unset, .unset, .unset] [])) t
          refine XS.iload X13.here hx rfl (hb hby at_119) rfl ?_
          show Steps p.tables e below (T13.setTop (mkF m 121 #[.val (.int p0), .val (.int p1), .val (.int p2), .val (.int p3), .val (.ref b1), .val (.int (Int32.ofNat fN)), .val (.int (Int32.ofNat lN)), .val (.ref b10), .val (.int (0 : Int32)), .val (.int (own_ind lN ([c0, c1, c2, c3].getD fN 0) ([c0, c1, c2, c3].getD (fN + 1) 0) 0)), .val (.int ([c0, c1, c2, c3].getD fN 0)), .val (.int ([c0, c1, c2, c3].getD (fN + 1) 0)), .unset, .unset, .unset] [(.int ([c0, c1, c2, c3].getD fN 0))])) _
          refine XS.bipush X13.here hx rfl (hb hby at_121) ?_
          show Steps p.tables e below (T13.setTop (mkF m 123 #[.val (.int p0), .val (.int p1), .val (.int p2), .val (.int p3), .val (.ref b1), .val (.int (Int32.ofNat fN)), .val (.int (Int32.ofNat lN)), .val (.ref b10), .val (.int (0 : Int32)), .val (.int (own_ind lN ([c0, c1, c2, c3].getD fN 0) ([c0, c1, c2, c3].getD (fN + 1) 0) 0)), .val (.int ([c0, c1, c2, c3].getD fN 0)), .val (.int ([c0, c1, c2, c3].getD (fN + 1) 0)), .unset, .unset, .unset] [(.int (31 : Int32)), (.int ([c0, c1, c2, c3].getD fN 0))])) _
          exact k
        by_cases hm123_15 : ([c0, c1, c2, c3].getD fN 0) = (31 : Int32)
        · refine own_goW (T' := T13) (g' := (mkF m 130 #[.val (.int p0), .val (.int p1), .val (.int p2), .val (.int p3), .val (.ref b1), .val (.int (Int32.ofNat fN)), .val (.int (Int32.ofNat lN)), .val (.ref b10), .val (.int (0 : Int32)), .val (.int (own_ind lN ([c0, c1, c2, c3].getD fN 0) ([c0, c1, c2, c3].getD (fN + 1) 0) 0)), .val (.int ([c0, c1, c2, c3].getD fN 0)), .val (.int ([c0, c1, c2, c3].getD (fN + 1) 0)), .unset, .unset, .unset] [])) (fun t k => ?_) ?_
          · refine XS.icmpYes X13.here hx rfl (pc0 := 123) (pc' := 130) rfl (hb hby at_123) rfl (teq hm123_15).1 (by decide) (by decide) ?_
            exact k
          refine own_goW (T' := T13) (g' := (mkF m 131 #[.val (.int p0), .val (.int p1), .val (.int p2), .val (.int p3), .val (.ref b1), .val (.int (Int32.ofNat fN)), .val (.int (Int32.ofNat lN)), .val (.ref b10), .val (.int (0 : Int32)), .val (.int (own_ind lN ([c0, c1, c2, c3].getD fN 0) ([c0, c1, c2, c3].getD (fN + 1) 0) 0)), .val (.int ([c0, c1, c2, c3].getD fN 0)), .val (.int ([c0, c1, c2, c3].getD (fN + 1) 0)), .unset, .unset, .unset] [(.int (0 : Int32))])) (fun t k => ?_) ?_
          · show Steps p.tables e below (T13.setTop (mkF m 130 #[.val (.int p0), .val (.int p1), .val (.int p2), .val (.int p3), .val (.ref b1), .val (.int (Int32.ofNat fN)), .val (.int (Int32.ofNat lN)), .val (.ref b10), .val (.int (0 : Int32)), .val (.int (own_ind lN ([c0, c1, c2, c3].getD fN 0) ([c0, c1, c2, c3].getD (fN + 1) 0) 0)), .val (.int ([c0, c1, c2, c3].getD fN 0)), .val (.int ([c0, c1, c2, c3].getD (fN + 1) 0)), .unset, .unset, .unset] [])) t
            refine XS.iconst X13.here hx rfl (hb hby at_130) ?_
            show Steps p.tables e below (T13.setTop (mkF m 131 #[.val (.int p0), .val (.int p1), .val (.int p2), .val (.int p3), .val (.ref b1), .val (.int (Int32.ofNat fN)), .val (.int (Int32.ofNat lN)), .val (.ref b10), .val (.int (0 : Int32)), .val (.int (own_ind lN ([c0, c1, c2, c3].getD fN 0) ([c0, c1, c2, c3].getD (fN + 1) 0) 0)), .val (.int ([c0, c1, c2, c3].getD fN 0)), .val (.int ([c0, c1, c2, c3].getD (fN + 1) 0)), .unset, .unset, .unset] [(.int (0 : Int32))])) _
            exact k
          exact w16 _ _ X13 e13 N13 (0 : Int32) (by rw [if_pos hm116_14, if_pos hm123_15])
        · refine own_goW (T' := T13) (g' := (mkF m 126 #[.val (.int p0), .val (.int p1), .val (.int p2), .val (.int p3), .val (.ref b1), .val (.int (Int32.ofNat fN)), .val (.int (Int32.ofNat lN)), .val (.ref b10), .val (.int (0 : Int32)), .val (.int (own_ind lN ([c0, c1, c2, c3].getD fN 0) ([c0, c1, c2, c3].getD (fN + 1) 0) 0)), .val (.int ([c0, c1, c2, c3].getD fN 0)), .val (.int ([c0, c1, c2, c3].getD (fN + 1) 0)), .unset, .unset, .unset] [])) (fun t k => ?_) ?_
          · refine XS.icmpNo X13.here hx rfl (hb hby at_123) rfl (feq hm123_15).1 ?_
            exact k
          refine own_goW (T' := T13) (g' := (mkF m 131 #[.val (.int p0), .val (.int p1), .val (.int p2), .val (.int p3), .val (.ref b1), .val (.int (Int32.ofNat fN)), .val (.int (Int32.ofNat lN)), .val (.ref b10), .val (.int (0 : Int32)), .val (.int (own_ind lN ([c0, c1, c2, c3].getD fN 0) ([c0, c1, c2, c3].getD (fN + 1) 0) 0)), .val (.int ([c0, c1, c2, c3].getD fN 0)), .val (.int ([c0, c1, c2, c3].getD (fN + 1) 0)), .unset, .unset, .unset] [(.int (1 : Int32))])) (fun t k => ?_) ?_
          · show Steps p.tables e below (T13.setTop (mkF m 126 #[.val (.int p0), .val (.int p1), .val (.int p2), .val (.int p3), .val (.ref b1), .val (.int (Int32.ofNat fN)), .val (.int (Int32.ofNat lN)), .val (.ref b10), .val (.int (0 : Int32)), .val (.int (own_ind lN ([c0, c1, c2, c3].getD fN 0) ([c0, c1, c2, c3].getD (fN + 1) 0) 0)), .val (.int ([c0, c1, c2, c3].getD fN 0)), .val (.int ([c0, c1, c2, c3].getD (fN + 1) 0)), .unset, .unset, .unset] [])) t
            refine XS.iconst X13.here hx rfl (hb hby at_126) ?_
            show Steps p.tables e below (T13.setTop (mkF m 127 #[.val (.int p0), .val (.int p1), .val (.int p2), .val (.int p3), .val (.ref b1), .val (.int (Int32.ofNat fN)), .val (.int (Int32.ofNat lN)), .val (.ref b10), .val (.int (0 : Int32)), .val (.int (own_ind lN ([c0, c1, c2, c3].getD fN 0) ([c0, c1, c2, c3].getD (fN + 1) 0) 0)), .val (.int ([c0, c1, c2, c3].getD fN 0)), .val (.int ([c0, c1, c2, c3].getD (fN + 1) 0)), .unset, .unset, .unset] [(.int (1 : Int32))])) _
            refine XS.goto X13.here hx rfl (pc0 := 127) (pc' := 131) rfl (hb hby at_127) (by decide) (by decide) ?_
            show Steps p.tables e below (T13.setTop (mkF m 131 #[.val (.int p0), .val (.int p1), .val (.int p2), .val (.int p3), .val (.ref b1), .val (.int (Int32.ofNat fN)), .val (.int (Int32.ofNat lN)), .val (.ref b10), .val (.int (0 : Int32)), .val (.int (own_ind lN ([c0, c1, c2, c3].getD fN 0) ([c0, c1, c2, c3].getD (fN + 1) 0) 0)), .val (.int ([c0, c1, c2, c3].getD fN 0)), .val (.int ([c0, c1, c2, c3].getD (fN + 1) 0)), .unset, .unset, .unset] [(.int (1 : Int32))])) _
            exact k
          exact w16 _ _ X13 e13 N13 (1 : Int32) (by rw [if_pos hm116_14, if_neg hm123_15])
      · refine own_goW (T' := T13) (g' := (mkF m 130 #[.val (.int p0), .val (.int p1), .val (.int p2), .val (.int p3), .val (.ref b1), .val (.int (Int32.ofNat fN)), .val (.int (Int32.ofNat lN)), .val (.ref b10), .val (.int (0 : Int32)), .val (.int (own_ind lN ([c0, c1, c2, c3].getD fN 0) ([c0, c1, c2, c3].getD (fN + 1) 0) 0)), .val (.int ([c0, c1, c2, c3].getD fN 0)), .val (.int ([c0, c1, c2, c3].getD (fN + 1) 0)), .unset, .unset, .unset] [])) (fun t k => ?_) ?_
        · refine XS.ifYes X13.here hx rfl (pc0 := 116) (pc' := 130) rfl (hb hby at_116) rfl ((if0 _ _).trans (flt hm116_14).2.2.2) (by decide) (by decide) ?_
          exact k
        refine own_goW (T' := T13) (g' := (mkF m 131 #[.val (.int p0), .val (.int p1), .val (.int p2), .val (.int p3), .val (.ref b1), .val (.int (Int32.ofNat fN)), .val (.int (Int32.ofNat lN)), .val (.ref b10), .val (.int (0 : Int32)), .val (.int (own_ind lN ([c0, c1, c2, c3].getD fN 0) ([c0, c1, c2, c3].getD (fN + 1) 0) 0)), .val (.int ([c0, c1, c2, c3].getD fN 0)), .val (.int ([c0, c1, c2, c3].getD (fN + 1) 0)), .unset, .unset, .unset] [(.int (0 : Int32))])) (fun t k => ?_) ?_
        · show Steps p.tables e below (T13.setTop (mkF m 130 #[.val (.int p0), .val (.int p1), .val (.int p2), .val (.int p3), .val (.ref b1), .val (.int (Int32.ofNat fN)), .val (.int (Int32.ofNat lN)), .val (.ref b10), .val (.int (0 : Int32)), .val (.int (own_ind lN ([c0, c1, c2, c3].getD fN 0) ([c0, c1, c2, c3].getD (fN + 1) 0) 0)), .val (.int ([c0, c1, c2, c3].getD fN 0)), .val (.int ([c0, c1, c2, c3].getD (fN + 1) 0)), .unset, .unset, .unset] [])) t
          refine XS.iconst X13.here hx rfl (hb hby at_130) ?_
          show Steps p.tables e below (T13.setTop (mkF m 131 #[.val (.int p0), .val (.int p1), .val (.int p2), .val (.int p3), .val (.ref b1), .val (.int (Int32.ofNat fN)), .val (.int (Int32.ofNat lN)), .val (.ref b10), .val (.int (0 : Int32)), .val (.int (own_ind lN ([c0, c1, c2, c3].getD fN 0) ([c0, c1, c2, c3].getD (fN + 1) 0) 0)), .val (.int ([c0, c1, c2, c3].getD fN 0)), .val (.int ([c0, c1, c2, c3].getD (fN + 1) 0)), .unset, .unset, .unset] [(.int (0 : Int32))])) _
          exact k
        exact w16 _ _ X13 e13 N13 (0 : Int32) (by rw [if_neg hm116_14])
    intro T16 L16 X16 e16 N16 b16_s0 h_b16_s0
    refine own_goW (T' := T16) (g' := (mkF m 135 #[.val (.int p0), .val (.int p1), .val (.int p2), .val (.int p3), .val (.ref b1), .val (.int (Int32.ofNat fN)), .val (.int (Int32.ofNat lN)), .val (.ref b10), .val (.int (0 : Int32)), .val (.int (own_ind lN ([c0, c1, c2, c3].getD fN 0) ([c0, c1, c2, c3].getD (fN + 1) 0) 0)), .val (.int ([c0, c1, c2, c3].getD fN 0)), .val (.int ([c0, c1, c2, c3].getD (fN + 1) 0)), .val (.int b16_s0), .unset, .unset] [(.int b16_s0)])) (fun t k => ?_) ?_
    · show Steps p.tables e below (T16.setTop (mkF m 131 #[.val (.int p0), .val (.int p1), .val (.int p2), .val (.int p3), .val (.ref b1), .val (.int (Int32.ofNat fN)), .val (.int (Int32.ofNat lN)), .val (.ref b10), .val (.int (0 : Int32)), .val (.int (own_ind lN ([c0, c1, c2, c3].getD fN 0) ([c0, c1, c2, c3].getD (fN + 1) 0) 0)), .val (.int ([c0, c1, c2, c3].getD fN 0)), .val (.int ([c0, c1, c2, c3].getD (fN + 1) 0)), .unset, .unset, .unset] [(.int b16_s0)])) t
      refine XS.istore X16.here hx rfl (hb hby at_131) rfl (l' := #[.val (.int p0), .val (.int p1), .val (.int p2), .val (.int p3), .val (.ref b1), .val (.int (Int32.ofNat fN)), .val (.int (Int32.ofNat lN)), .val (.ref b10), .val (.int (0 : Int32)), .val (.int (own_ind lN ([c0, c1, c2, c3].getD fN 0) ([c0, c1, c2, c3].getD (fN + 1) 0) 0)), .val (.int ([c0, c1, c2, c3].getD fN 0)), .val (.int ([c0, c1, c2, c3].getD (fN + 1) 0)), .val (.int b16_s0), .unset, .unset]) rfl ?_
      show Steps p.tables e below (T16.setTop (mkF m 133 #[.val (.int p0), .val (.int p1), .val (.int p2), .val (.int p3), .val (.ref b1), .val (.int (Int32.ofNat fN)), .val (.int (Int32.ofNat lN)), .val (.ref b10), .val (.int (0 : Int32)), .val (.int (own_ind lN ([c0, c1, c2, c3].getD fN 0) ([c0, c1, c2, c3].getD (fN + 1) 0) 0)), .val (.int ([c0, c1, c2, c3].getD fN 0)), .val (.int ([c0, c1, c2, c3].getD (fN + 1) 0)), .val (.int b16_s0), .unset, .unset] [])) _
      refine XS.iload X16.here hx rfl (hb hby at_133) rfl ?_
      show Steps p.tables e below (T16.setTop (mkF m 135 #[.val (.int p0), .val (.int p1), .val (.int p2), .val (.int p3), .val (.ref b1), .val (.int (Int32.ofNat fN)), .val (.int (Int32.ofNat lN)), .val (.ref b10), .val (.int (0 : Int32)), .val (.int (own_ind lN ([c0, c1, c2, c3].getD fN 0) ([c0, c1, c2, c3].getD (fN + 1) 0) 0)), .val (.int ([c0, c1, c2, c3].getD fN 0)), .val (.int ([c0, c1, c2, c3].getD (fN + 1) 0)), .val (.int b16_s0), .unset, .unset] [(.int b16_s0)])) _
      exact k
    suffices w20 : ∀ (T20 : State) (L20 : List Loc) (X20 : Stand p l e room_1 (s.setVm T11.vm) m #[(.int p0), (.int p1), (.int p2), (.int p3)] below meth c T20 L20 5 26) (e20 : T20.heap = T12.heap) (N20 : Fr n0 L20) (b20_s0 : Int32) (h_b20_s0 : b20_s0 = (if b16_s0 = (0 : Int32) then (0 : Int32) else (if (1 : Int32) < (Int32.ofNat lN) then (if ([c0, c1, c2, c3].getD (fN + 1) 0) = (31 : Int32) then (0 : Int32) else (1 : Int32)) else (0 : Int32)))), own_EndsW p e below s n0 room_1.cells room_1.slots T20 (mkF m 156 #[.val (.int p0), .val (.int p1), .val (.int p2), .val (.int p3), .val (.ref b1), .val (.int (Int32.ofNat fN)), .val (.int (Int32.ofNat lN)), .val (.ref b10), .val (.int (0 : Int32)), .val (.int (own_ind lN ([c0, c1, c2, c3].getD fN 0) ([c0, c1, c2, c3].getD (fN + 1) 0) 0)), .val (.int ([c0, c1, c2, c3].getD fN 0)), .val (.int ([c0, c1, c2, c3].getD (fN + 1) 0)), .val (.int b16_s0), .unset, .unset] [(.int b20_s0)]) own_Q0 by
      by_cases hm135_17 : b16_s0 = (0 : Int32)
      · refine own_goW (T' := T16) (g' := (mkF m 155 #[.val (.int p0), .val (.int p1), .val (.int p2), .val (.int p3), .val (.ref b1), .val (.int (Int32.ofNat fN)), .val (.int (Int32.ofNat lN)), .val (.ref b10), .val (.int (0 : Int32)), .val (.int (own_ind lN ([c0, c1, c2, c3].getD fN 0) ([c0, c1, c2, c3].getD (fN + 1) 0) 0)), .val (.int ([c0, c1, c2, c3].getD fN 0)), .val (.int ([c0, c1, c2, c3].getD (fN + 1) 0)), .val (.int b16_s0), .unset, .unset] [])) (fun t k => ?_) ?_
        · refine XS.ifYes X16.here hx rfl (pc0 := 135) (pc' := 155) rfl (hb hby at_135) rfl ((if0 _ _).trans (teq hm135_17).1) (by decide) (by decide) ?_
          exact k
        refine own_goW (T' := T16) (g' := (mkF m 156 #[.val (.int p0), .val (.int p1), .val (.int p2), .val (.int p3), .val (.ref b1), .val (.int (Int32.ofNat fN)), .val (.int (Int32.ofNat lN)), .val (.ref b10), .val (.int (0 : Int32)), .val (.int (own_ind lN ([c0, c1, c2, c3].getD fN 0) ([c0, c1, c2, c3].getD (fN + 1) 0) 0)), .val (.int ([c0, c1, c2, c3].getD fN 0)), .val (.int ([c0, c1, c2, c3].getD (fN + 1) 0)), .val (.int b16_s0), .unset, .unset] [(.int (0 : Int32))])) (fun t k => ?_) ?_
        · show Steps p.tables e below (T16.setTop (mkF m 155 #[.val (.int p0), .val (.int p1), .val (.int p2), .val (.int p3), .val (.ref b1), .val (.int (Int32.ofNat fN)), .val (.int (Int32.ofNat lN)), .val (.ref b10), .val (.int (0 : Int32)), .val (.int (own_ind lN ([c0, c1, c2, c3].getD fN 0) ([c0, c1, c2, c3].getD (fN + 1) 0) 0)), .val (.int ([c0, c1, c2, c3].getD fN 0)), .val (.int ([c0, c1, c2, c3].getD (fN + 1) 0)), .val (.int b16_s0), .unset, .unset] [])) t
          refine XS.iconst X16.here hx rfl (hb hby at_155) ?_
          show Steps p.tables e below (T16.setTop (mkF m 156 #[.val (.int p0), .val (.int p1), .val (.int p2), .val (.int p3), .val (.ref b1), .val (.int (Int32.ofNat fN)), .val (.int (Int32.ofNat lN)), .val (.ref b10), .val (.int (0 : Int32)), .val (.int (own_ind lN ([c0, c1, c2, c3].getD fN 0) ([c0, c1, c2, c3].getD (fN + 1) 0) 0)), .val (.int ([c0, c1, c2, c3].getD fN 0)), .val (.int ([c0, c1, c2, c3].getD (fN + 1) 0)), .val (.int b16_s0), .unset, .unset] [(.int (0 : Int32))])) _
          exact k
        exact w20 _ _ X16 e16 N16 (0 : Int32) (by rw [if_pos hm135_17])
      · refine own_goW (T' := T16) (g' := (mkF m 138 #[.val (.int p0), .val (.int p1), .val (.int p2), .val (.int p3), .val (.ref b1), .val (.int (Int32.ofNat fN)), .val (.int (Int32.ofNat lN)), .val (.ref b10), .val (.int (0 : Int32)), .val (.int (own_ind lN ([c0, c1, c2, c3].getD fN 0) ([c0, c1, c2, c3].getD (fN + 1) 0) 0)), .val (.int ([c0, c1, c2, c3].getD fN 0)), .val (.int ([c0, c1, c2, c3].getD (fN + 1) 0)), .val (.int b16_s0), .unset, .unset] [])) (fun t k => ?_) ?_
        · refine XS.ifNo X16.here hx rfl (hb hby at_135) rfl ((if0 _ _).trans (feq hm135_17).1) ?_
          exact k
        refine own_goW (T' := T16) (g' := (mkF m 141 #[.val (.int p0), .val (.int p1), .val (.int p2), .val (.int p3), .val (.ref b1), .val (.int (Int32.ofNat fN)), .val (.int (Int32.ofNat lN)), .val (.ref b10), .val (.int (0 : Int32)), .val (.int (own_ind lN ([c0, c1, c2, c3].getD fN 0) ([c0, c1, c2, c3].getD (fN + 1) 0) 0)), .val (.int ([c0, c1, c2, c3].getD fN 0)), .val (.int ([c0, c1, c2, c3].getD (fN + 1) 0)), .val (.int b16_s0), .unset, .unset] [(.int (1 : Int32)), (.int (Int32.ofNat lN))])) (fun t k => ?_) ?_
        · show Steps p.tables e below (T16.setTop (mkF m 138 #[.val (.int p0), .val (.int p1), .val (.int p2), .val (.int p3), .val (.ref b1), .val (.int (Int32.ofNat fN)), .val (.int (Int32.ofNat lN)), .val (.ref b10), .val (.int (0 : Int32)), .val (.int (own_ind lN ([c0, c1, c2, c3].getD fN 0) ([c0, c1, c2, c3].getD (fN + 1) 0) 0)), .val (.int ([c0, c1, c2, c3].getD fN 0)), .val (.int ([c0, c1, c2, c3].getD (fN + 1) 0)), .val (.int b16_s0), .unset, .unset] [])) t
          refine XS.iload X16.here hx rfl (hb hby at_138) rfl ?_
          show Steps p.tables e below (T16.setTop (mkF m 140 #[.val (.int p0), .val (.int p1), .val (.int p2), .val (.int p3), .val (.ref b1), .val (.int (Int32.ofNat fN)), .val (.int (Int32.ofNat lN)), .val (.ref b10), .val (.int (0 : Int32)), .val (.int (own_ind lN ([c0, c1, c2, c3].getD fN 0) ([c0, c1, c2, c3].getD (fN + 1) 0) 0)), .val (.int ([c0, c1, c2, c3].getD fN 0)), .val (.int ([c0, c1, c2, c3].getD (fN + 1) 0)), .val (.int b16_s0), .unset, .unset] [(.int (Int32.ofNat lN))])) _
          refine XS.iconst X16.here hx rfl (hb hby at_140) ?_
          show Steps p.tables e below (T16.setTop (mkF m 141 #[.val (.int p0), .val (.int p1), .val (.int p2), .val (.int p3), .val (.ref b1), .val (.int (Int32.ofNat fN)), .val (.int (Int32.ofNat lN)), .val (.ref b10), .val (.int (0 : Int32)), .val (.int (own_ind lN ([c0, c1, c2, c3].getD fN 0) ([c0, c1, c2, c3].getD (fN + 1) 0) 0)), .val (.int ([c0, c1, c2, c3].getD fN 0)), .val (.int ([c0, c1, c2, c3].getD (fN + 1) 0)), .val (.int b16_s0), .unset, .unset] [(.int (1 : Int32)), (.int (Int32.ofNat lN))])) _
          exact k
        by_cases hm141_18 : (1 : Int32) < (Int32.ofNat lN)
        · refine own_goW (T' := T16) (g' := (mkF m 144 #[.val (.int p0), .val (.int p1), .val (.int p2), .val (.int p3), .val (.ref b1), .val (.int (Int32.ofNat fN)), .val (.int (Int32.ofNat lN)), .val (.ref b10), .val (.int (0 : Int32)), .val (.int (own_ind lN ([c0, c1, c2, c3].getD fN 0) ([c0, c1, c2, c3].getD (fN + 1) 0) 0)), .val (.int ([c0, c1, c2, c3].getD fN 0)), .val (.int ([c0, c1, c2, c3].getD (fN + 1) 0)), .val (.int b16_s0), .unset, .unset] [])) (fun t k => ?_) ?_
          · refine XS.icmpNo X16.here hx rfl (hb hby at_141) rfl (tlt hm141_18).2.2.2 ?_
            exact k
          refine own_goW (T' := T16) (g' := (mkF m 148 #[.val (.int p0), .val (.int p1), .val (.int p2), .val (.int p3), .val (.ref b1), .val (.int (Int32.ofNat fN)), .val (.int (Int32.ofNat lN)), .val (.ref b10), .val (.int (0 : Int32)), .val (.int (own_ind lN ([c0, c1, c2, c3].getD fN 0) ([c0, c1, c2, c3].getD (fN + 1) 0) 0)), .val (.int ([c0, c1, c2, c3].getD fN 0)), .val (.int ([c0, c1, c2, c3].getD (fN + 1) 0)), .val (.int b16_s0), .unset, .unset] [(.int (31 : Int32)), (.int ([c0, c1, c2, c3].getD (fN + 1) 0))])) (fun t k => ?_) ?_
          · show Steps p.tables e below (T16.setTop (mkF m 144 #[.val (.int p0), .val (.int p1), .val (.int p2), .val (.int p3), .val (.ref b1), .val (.int (Int32.ofNat fN)), .val (.int (Int32.ofNat lN)), .val (.ref b10), .val (.int (0 : Int32)), .val (.int (own_ind lN ([c0, c1, c2, c3].getD fN 0) ([c0, c1, c2, c3].getD (fN + 1) 0) 0)), .val (.int ([c0, c1, c2, c3].getD fN 0)), .val (.int ([c0, c1, c2, c3].getD (fN + 1) 0)), .val (.int b16_s0), .unset, .unset] [])) t
            refine XS.iload X16.here hx rfl (hb hby at_144) rfl ?_
            show Steps p.tables e below (T16.setTop (mkF m 146 #[.val (.int p0), .val (.int p1), .val (.int p2), .val (.int p3), .val (.ref b1), .val (.int (Int32.ofNat fN)), .val (.int (Int32.ofNat lN)), .val (.ref b10), .val (.int (0 : Int32)), .val (.int (own_ind lN ([c0, c1, c2, c3].getD fN 0) ([c0, c1, c2, c3].getD (fN + 1) 0) 0)), .val (.int ([c0, c1, c2, c3].getD fN 0)), .val (.int ([c0, c1, c2, c3].getD (fN + 1) 0)), .val (.int b16_s0), .unset, .unset] [(.int ([c0, c1, c2, c3].getD (fN + 1) 0))])) _
            refine XS.bipush X16.here hx rfl (hb hby at_146) ?_
            show Steps p.tables e below (T16.setTop (mkF m 148 #[.val (.int p0), .val (.int p1), .val (.int p2), .val (.int p3), .val (.ref b1), .val (.int (Int32.ofNat fN)), .val (.int (Int32.ofNat lN)), .val (.ref b10), .val (.int (0 : Int32)), .val (.int (own_ind lN ([c0, c1, c2, c3].getD fN 0) ([c0, c1, c2, c3].getD (fN + 1) 0) 0)), .val (.int ([c0, c1, c2, c3].getD fN 0)), .val (.int ([c0, c1, c2, c3].getD (fN + 1) 0)), .val (.int b16_s0), .unset, .unset] [(.int (31 : Int32)), (.int ([c0, c1, c2, c3].getD (fN + 1) 0))])) _
            exact k
          by_cases hm148_19 : ([c0, c1, c2, c3].getD (fN + 1) 0) = (31 : Int32)
          · refine own_goW (T' := T16) (g' := (mkF m 155 #[.val (.int p0), .val (.int p1), .val (.int p2), .val (.int p3), .val (.ref b1), .val (.int (Int32.ofNat fN)), .val (.int (Int32.ofNat lN)), .val (.ref b10), .val (.int (0 : Int32)), .val (.int (own_ind lN ([c0, c1, c2, c3].getD fN 0) ([c0, c1, c2, c3].getD (fN + 1) 0) 0)), .val (.int ([c0, c1, c2, c3].getD fN 0)), .val (.int ([c0, c1, c2, c3].getD (fN + 1) 0)), .val (.int b16_s0), .unset, .unset] [])) (fun t k => ?_) ?_
            · refine XS.icmpYes X16.here hx rfl (pc0 := 148) (pc' := 155) rfl (hb hby at_148) rfl (teq hm148_19).1 (by decide) (by decide) ?_
              exact k
            refine own_goW (T' := T16) (g' := (mkF m 156 #[.val (.int p0), .val (.int p1), .val (.int p2), .val (.int p3), .val (.ref b1), .val (.int (Int32.ofNat fN)), .val (.int (Int32.ofNat lN)), .val (.ref b10), .val (.int (0 : Int32)), .val (.int (own_ind lN ([c0, c1, c2, c3].getD fN 0) ([c0, c1, c2, c3].getD (fN + 1) 0) 0)), .val (.int ([c0, c1, c2, c3].getD fN 0)), .val (.int ([c0, c1, c2, c3].getD (fN + 1) 0)), .val (.int b16_s0), .unset, .unset] [(.int (0 : Int32))])) (fun t k => ?_) ?_
            · show Steps p.tables e below (T16.setTop (mkF m 155 #[.val (.int p0), .val (.int p1), .val (.int p2), .val (.int p3), .val (.ref b1), .val (.int (Int32.ofNat fN)), .val (.int (Int32.ofNat lN)), .val (.ref b10), .val (.int (0 : Int32)), .val (.int (own_ind lN ([c0, c1, c2, c3].getD fN 0) ([c0, c1, c2, c3].getD (fN + 1) 0) 0)), .val (.int ([c0, c1, c2, c3].getD fN 0)), .val (.int ([c0, c1, c2, c3].getD (fN + 1) 0)), .val (.int b16_s0), .unset, .unset] [])) t
              refine XS.iconst X16.here hx rfl (hb hby at_155) ?_
              show Steps p.tables e below (T16.setTop (mkF m 156 #[.val (.int p0), .val (.int p1), .val (.int p2), .val (.int p3), .val (.ref b1), .val (.int (Int32.ofNat fN)), .val (.int (Int32.ofNat lN)), .val (.ref b10), .val (.int (0 : Int32)), .val (.int (own_ind lN ([c0, c1, c2, c3].getD fN 0) ([c0, c1, c2, c3].getD (fN + 1) 0) 0)), .val (.int ([c0, c1, c2, c3].getD fN 0)), .val (.int ([c0, c1, c2, c3].getD (fN + 1) 0)), .val (.int b16_s0), .unset, .unset] [(.int (0 : Int32))])) _
              exact k
            exact w20 _ _ X16 e16 N16 (0 : Int32) (by rw [if_neg hm135_17, if_pos hm141_18, if_pos hm148_19])
          · refine own_goW (T' := T16) (g' := (mkF m 151 #[.val (.int p0), .val (.int p1), .val (.int p2), .val (.int p3), .val (.ref b1), .val (.int (Int32.ofNat fN)), .val (.int (Int32.ofNat lN)), .val (.ref b10), .val (.int (0 : Int32)), .val (.int (own_ind lN ([c0, c1, c2, c3].getD fN 0) ([c0, c1, c2, c3].getD (fN + 1) 0) 0)), .val (.int ([c0, c1, c2, c3].getD fN 0)), .val (.int ([c0, c1, c2, c3].getD (fN + 1) 0)), .val (.int b16_s0), .unset, .unset] [])) (fun t k => ?_) ?_
            · refine XS.icmpNo X16.here hx rfl (hb hby at_148) rfl (feq hm148_19).1 ?_
              exact k
            refine own_goW (T' := T16) (g' := (mkF m 156 #[.val (.int p0), .val (.int p1), .val (.int p2), .val (.int p3), .val (.ref b1), .val (.int (Int32.ofNat fN)), .val (.int (Int32.ofNat lN)), .val (.ref b10), .val (.int (0 : Int32)), .val (.int (own_ind lN ([c0, c1, c2, c3].getD fN 0) ([c0, c1, c2, c3].getD (fN + 1) 0) 0)), .val (.int ([c0, c1, c2, c3].getD fN 0)), .val (.int ([c0, c1, c2, c3].getD (fN + 1) 0)), .val (.int b16_s0), .unset, .unset] [(.int (1 : Int32))])) (fun t k => ?_) ?_
            · show Steps p.tables e below (T16.setTop (mkF m 151 #[.val (.int p0), .val (.int p1), .val (.int p2), .val (.int p3), .val (.ref b1), .val (.int (Int32.ofNat fN)), .val (.int (Int32.ofNat lN)), .val (.ref b10), .val (.int (0 : Int32)), .val (.int (own_ind lN ([c0, c1, c2, c3].getD fN 0) ([c0, c1, c2, c3].getD (fN + 1) 0) 0)), .val (.int ([c0, c1, c2, c3].getD fN 0)), .val (.int ([c0, c1, c2, c3].getD (fN + 1) 0)), .val (.int b16_s0), .unset, .unset] [])) t
              refine XS.iconst X16.here hx rfl (hb hby at_151) ?_
              show Steps p.tables e below (T16.setTop (mkF m 152 #[.val (.int p0), .val (.int p1), .val (.int p2), .val (.int p3), .val (.ref b1), .val (.int (Int32.ofNat fN)), .val (.int (Int32.ofNat lN)), .val (.ref b10), .val (.int (0 : Int32)), .val (.int (own_ind lN ([c0, c1, c2, c3].getD fN 0) ([c0, c1, c2, c3].getD (fN + 1) 0) 0)), .val (.int ([c0, c1, c2, c3].getD fN 0)), .val (.int ([c0, c1, c2, c3].getD (fN + 1) 0)), .val (.int b16_s0), .unset, .unset] [(.int (1 : Int32))])) _
              refine XS.goto X16.here hx rfl (pc0 := 152) (pc' := 156) rfl (hb hby at_152) (by decide) (by decide) ?_
              show Steps p.tables e below (T16.setTop (mkF m 156 #[.val (.int p0), .val (.int p1), .val (.int p2), .val (.int p3), .val (.ref b1), .val (.int (Int32.ofNat fN)), .val (.int (Int32.ofNat lN)), .val (.ref b10), .val (.int (0 : Int32)), .val (.int (own_ind lN ([c0, c1, c2, c3].getD fN 0) ([c0, c1, c2, c3].getD (fN + 1) 0) 0)), .val (.int ([c0, c1, c2, c3].getD fN 0)), .val (.int ([c0, c1, c2, c3].getD (fN + 1) 0)), .val (.int b16_s0), .unset, .unset] [(.int (1 : Int32))])) _
              exact k
            exact w20 _ _ X16 e16 N16 (1 : Int32) (by rw [if_neg hm135_17, if_pos hm141_18, if_neg hm148_19])
        · refine own_goW (T' := T16) (g' := (mkF m 155 #[.val (.int p0), .val (.int p1), .val (.int p2), .val (.int p3), .val (.ref b1), .val (.int (Int32.ofNat fN)), .val (.int (Int32.ofNat lN)), .val (.ref b10), .val (.int (0 : Int32)), .val (.int (own_ind lN ([c0, c1, c2, c3].getD fN 0) ([c0, c1, c2, c3].getD (fN + 1) 0) 0)), .val (.int ([c0, c1, c2, c3].getD fN 0)), .val (.int ([c0, c1, c2, c3].getD (fN + 1) 0)), .val (.int b16_s0), .unset, .unset] [])) (fun t k => ?_) ?_
          · refine XS.icmpYes X16.here hx rfl (pc0 := 141) (pc' := 155) rfl (hb hby at_141) rfl (flt hm141_18).2.2.2 (by decide) (by decide) ?_
            exact k
          refine own_goW (T' := T16) (g' := (mkF m 156 #[.val (.int p0), .val (.int p1), .val (.int p2), .val (.int p3), .val (.ref b1), .val (.int (Int32.ofNat fN)), .val (.int (Int32.ofNat lN)), .val (.ref b10), .val (.int (0 : Int32)), .val (.int (own_ind lN ([c0, c1, c2, c3].getD fN 0) ([c0, c1, c2, c3].getD (fN + 1) 0) 0)), .val (.int ([c0, c1, c2, c3].getD fN 0)), .val (.int ([c0, c1, c2, c3].getD (fN + 1) 0)), .val (.int b16_s0), .unset, .unset] [(.int (0 : Int32))])) (fun t k => ?_) ?_
          · show Steps p.tables e below (T16.setTop (mkF m 155 #[.val (.int p0), .val (.int p1), .val (.int p2), .val (.int p3), .val (.ref b1), .val (.int (Int32.ofNat fN)), .val (.int (Int32.ofNat lN)), .val (.ref b10), .val (.int (0 : Int32)), .val (.int (own_ind lN ([c0, c1, c2, c3].getD fN 0) ([c0, c1, c2, c3].getD (fN + 1) 0) 0)), .val (.int ([c0, c1, c2, c3].getD fN 0)), .val (.int ([c0, c1, c2, c3].getD (fN + 1) 0)), .val (.int b16_s0), .unset, .unset] [])) t
            refine XS.iconst X16.here hx rfl (hb hby at_155) ?_
            show Steps p.tables e below (T16.setTop (mkF m 156 #[.val (.int p0), .val (.int p1), .val (.int p2), .val (.int p3), .val (.ref b1), .val (.int (Int32.ofNat fN)), .val (.int (Int32.ofNat lN)), .val (.ref b10), .val (.int (0 : Int32)), .val (.int (own_ind lN ([c0, c1, c2, c3].getD fN 0) ([c0, c1, c2, c3].getD (fN + 1) 0) 0)), .val (.int ([c0, c1, c2, c3].getD fN 0)), .val (.int ([c0, c1, c2, c3].getD (fN + 1) 0)), .val (.int b16_s0), .unset, .unset] [(.int (0 : Int32))])) _
            exact k
          exact w20 _ _ X16 e16 N16 (0 : Int32) (by rw [if_neg hm135_17, if_neg hm141_18])
    intro T20 L20 X20 e20 N20 b20_s0 h_b20_s0
    refine own_goW (T' := T20) (g' := (mkF m 165 #[.val (.int p0), .val (.int p1), .val (.int p2), .val (.int p3), .val (.ref b1), .val (.int (Int32.ofNat fN)), .val (.int (Int32.ofNat lN)), .val (.ref b10), .val (.int (0 : Int32)), .val (.int (own_ind lN ([c0, c1, c2, c3].getD fN 0) ([c0, c1, c2, c3].getD (fN + 1) 0) 0)), .val (.int ([c0, c1, c2, c3].getD fN 0)), .val (.int ([c0, c1, c2, c3].getD (fN + 1) 0)), .val (.int b16_s0), .val (.int b20_s0), .unset] [(.int b16_s0)])) (fun t k => ?_) ?_
    · show Steps p.tables e below (T20.setTop (mkF m 156 #[.val (.int p0), .val (.int p1), .val (.int p2), .val (.int p3), .val (.ref b1), .val (.int (Int32.ofNat fN)), .val (.int (Int32.ofNat lN)), .val (.ref b10), .val (.int (0 : Int32)), .val (.int (own_ind lN ([c0, c1, c2, c3].getD fN 0) ([c0, c1, c2, c3].getD (fN + 1) 0) 0)), .val (.int ([c0, c1, c2, c3].getD fN 0)), .val (.int ([c0, c1, c2, c3].getD (fN + 1) 0)), .val (.int b16_s0), .unset, .unset] [(.int b20_s0)])) t
      refine XS.istore X20.here hx rfl (hb hby at_156) rfl (l' := #[.val (.int p0), .val (.int p1), .val (.int p2), .val (.int p3), .val (.ref b1), .val (.int (Int32.ofNat fN)), .val (.int (Int32.ofNat lN)), .val (.ref b10), .val (.int (0 : Int32)), .val (.int (own_ind lN ([c0, c1, c2, c3].getD fN 0) ([c0, c1, c2, c3].getD (fN + 1) 0) 0)), .val (.int ([c0, c1, c2, c3].getD fN 0)), .val (.int ([c0, c1, c2, c3].getD (fN + 1) 0)), .val (.int b16_s0), .val (.int b20_s0), .unset]) rfl ?_
      show Steps p.tables e below (T20.setTop (mkF m 158 #[.val (.int p0), .val (.int p1), .val (.int p2), .val (.int p3), .val (.ref b1), .val (.int (Int32.ofNat fN)), .val (.int (Int32.ofNat lN)), .val (.ref b10), .val (.int (0 : Int32)), .val (.int (own_ind lN ([c0, c1, c2, c3].getD fN 0) ([c0, c1, c2, c3].getD (fN + 1) 0) 0)), .val (.int ([c0, c1, c2, c3].getD fN 0)), .val (.int ([c0, c1, c2, c3].getD (fN + 1) 0)), .val (.int b16_s0), .val (.int b20_s0), .unset] [])) _
      refine XS.iload X20.here hx rfl (hb hby at_158) rfl ?_
      show Steps p.tables e below (T20.setTop (mkF m 160 #[.val (.int p0), .val (.int p1), .val (.int p2), .val (.int p3), .val (.ref b1), .val (.int (Int32.ofNat fN)), .val (.int (Int32.ofNat lN)), .val (.ref b10), .val (.int (0 : Int32)), .val (.int (own_ind lN ([c0, c1, c2, c3].getD fN 0) ([c0, c1, c2, c3].getD (fN + 1) 0) 0)), .val (.int ([c0, c1, c2, c3].getD fN 0)), .val (.int ([c0, c1, c2, c3].getD (fN + 1) 0)), .val (.int b16_s0), .val (.int b20_s0), .unset] [(.int (0 : Int32))])) _
      refine XS.ifNo X20.here hx rfl (hb hby at_160) rfl ((if0 _ _).trans (teq (by decide)).2) ?_
      show Steps p.tables e below (T20.setTop (mkF m 163 #[.val (.int p0), .val (.int p1), .val (.int p2), .val (.int p3), .val (.ref b1), .val (.int (Int32.ofNat fN)), .val (.int (Int32.ofNat lN)), .val (.ref b10), .val (.int (0 : Int32)), .val (.int (own_ind lN ([c0, c1, c2, c3].getD fN 0) ([c0, c1, c2, c3].getD (fN + 1) 0) 0)), .val (.int ([c0, c1, c2, c3].getD fN 0)), .val (.int ([c0, c1, c2, c3].getD (fN + 1) 0)), .val (.int b16_s0), .val (.int b20_s0), .unset] [])) _
      refine XS.iload X20.here hx rfl (hb hby at_163) rfl ?_
      show Steps p.tables e below (T20.setTop (mkF m 165 #[.val (.int p0), .val (.int p1), .val (.int p2), .val (.int p3), .val (.ref b1), .val (.int (Int32.ofNat fN)), .val (.int (Int32.ofNat lN)), .val (.ref b10), .val (.int (0 : Int32)), .val (.int (own_ind lN ([c0, c1, c2, c3].getD fN 0) ([c0, c1, c2, c3].getD (fN + 1) 0) 0)), .val (.int ([c0, c1, c2, c3].getD fN 0)), .val (.int ([c0, c1, c2, c3].getD (fN + 1) 0)), .val (.int b16_s0), .val (.int b20_s0), .unset] [(.int b16_s0)])) _
      exact k
    suffices w22 : ∀ (T22 : State) (L22 : List Loc) (X22 : Stand p l e room_1 (s.setVm T11.vm) m #[(.int p0), (.int p1), (.int p2), (.int p3)] below meth c T22 L22 5 26) (e22 : T22.heap = T12.heap) (N22 : Fr n0 L22) (b22_s0 : Int32) (h_b22_s0 : b22_s0 = (if b16_s0 = (0 : Int32) then (-1 : Int32) else (([c0, c1, c2, c3].getD fN 0) &&& (255 : Int32)))), own_EndsW p e below s n0 room_1.cells room_1.slots T22 (mkF m 178 #[.val (.int p0), .val (.int p1), .val (.int p2), .val (.int p3), .val (.ref b1), .val (.int (Int32.ofNat fN)), .val (.int (Int32.ofNat lN)), .val (.ref b10), .val (.int (0 : Int32)), .val (.int (own_ind lN ([c0, c1, c2, c3].getD fN 0) ([c0, c1, c2, c3].getD (fN + 1) 0) 0)), .val (.int ([c0, c1, c2, c3].getD fN 0)), .val (.int ([c0, c1, c2, c3].getD (fN + 1) 0)), .val (.int b16_s0), .val (.int b20_s0), .unset] [(.int b22_s0)]) own_Q0 by
      by_cases hm165_21 : b16_s0 = (0 : Int32)
      · refine own_goW (T' := T20) (g' := (mkF m 177 #[.val (.int p0), .val (.int p1), .val (.int p2), .val (.int p3), .val (.ref b1), .val (.int (Int32.ofNat fN)), .val (.int (Int32.ofNat lN)), .val (.ref b10), .val (.int (0 : Int32)), .val (.int (own_ind lN ([c0, c1, c2, c3].getD fN 0) ([c0, c1, c2, c3].getD (fN + 1) 0) 0)), .val (.int ([c0, c1, c2, c3].getD fN 0)), .val (.int ([c0, c1, c2, c3].getD (fN + 1) 0)), .val (.int b16_s0), .val (.int b20_s0), .unset] [])) (fun t k => ?_) ?_
        · refine XS.ifYes X20.here hx rfl (pc0 := 165) (pc' := 177) rfl (hb hby at_165) rfl ((if0 _ _).trans (teq hm165_21).1) (by decide) (by decide) ?_
          exact k
        refine own_goW (T' := T20) (g' := (mkF m 178 #[.val (.int p0), .val (.int p1), .val (.int p2), .val (.int p3), .val (.ref b1), .val (.int (Int32.ofNat fN)), .val (.int (Int32.ofNat lN)), .val (.ref b10), .val (.int (0 : Int32)), .val (.int (own_ind lN ([c0, c1, c2, c3].getD fN 0) ([c0, c1, c2, c3].getD (fN + 1) 0) 0)), .val (.int ([c0, c1, c2, c3].getD fN 0)), .val (.int ([c0, c1, c2, c3].getD (fN + 1) 0)), .val (.int b16_s0), .val (.int b20_s0), .unset] [(.int (-1 : Int32))])) (fun t k => ?_) ?_
        · show Steps p.tables e below (T20.setTop (mkF m 177 #[.val (.int p0), .val (.int p1), .val (.int p2), .val (.int p3), .val (.ref b1), .val (.int (Int32.ofNat fN)), .val (.int (Int32.ofNat lN)), .val (.ref b10), .val (.int (0 : Int32)), .val (.int (own_ind lN ([c0, c1, c2, c3].getD fN 0) ([c0, c1, c2, c3].getD (fN + 1) 0) 0)), .val (.int ([c0, c1, c2, c3].getD fN 0)), .val (.int ([c0, c1, c2, c3].getD (fN + 1) 0)), .val (.int b16_s0), .val (.int b20_s0), .unset] [])) t
          refine XS.iconst X20.here hx rfl (hb hby at_177) ?_
          show Steps p.tables e below (T20.setTop (mkF m 178 #[.val (.int p0), .val (.int p1), .val (.int p2), .val (.int p3), .val (.ref b1), .val (.int (Int32.ofNat fN)), .val (.int (Int32.ofNat lN)), .val (.ref b10), .val (.int (0 : Int32)), .val (.int (own_ind lN ([c0, c1, c2, c3].getD fN 0) ([c0, c1, c2, c3].getD (fN + 1) 0) 0)), .val (.int ([c0, c1, c2, c3].getD fN 0)), .val (.int ([c0, c1, c2, c3].getD (fN + 1) 0)), .val (.int b16_s0), .val (.int b20_s0), .unset] [(.int (-1 : Int32))])) _
          exact k
        exact w22 _ _ X20 e20 N20 (-1 : Int32) (by rw [if_pos hm165_21])
      · refine own_goW (T' := T20) (g' := (mkF m 168 #[.val (.int p0), .val (.int p1), .val (.int p2), .val (.int p3), .val (.ref b1), .val (.int (Int32.ofNat fN)), .val (.int (Int32.ofNat lN)), .val (.ref b10), .val (.int (0 : Int32)), .val (.int (own_ind lN ([c0, c1, c2, c3].getD fN 0) ([c0, c1, c2, c3].getD (fN + 1) 0) 0)), .val (.int ([c0, c1, c2, c3].getD fN 0)), .val (.int ([c0, c1, c2, c3].getD (fN + 1) 0)), .val (.int b16_s0), .val (.int b20_s0), .unset] [])) (fun t k => ?_) ?_
        · refine XS.ifNo X20.here hx rfl (hb hby at_165) rfl ((if0 _ _).trans (feq hm165_21).1) ?_
          exact k
        refine own_goW (T' := T20) (g' := (mkF m 178 #[.val (.int p0), .val (.int p1), .val (.int p2), .val (.int p3), .val (.ref b1), .val (.int (Int32.ofNat fN)), .val (.int (Int32.ofNat lN)), .val (.ref b10), .val (.int (0 : Int32)), .val (.int (own_ind lN ([c0, c1, c2, c3].getD fN 0) ([c0, c1, c2, c3].getD (fN + 1) 0) 0)), .val (.int ([c0, c1, c2, c3].getD fN 0)), .val (.int ([c0, c1, c2, c3].getD (fN + 1) 0)), .val (.int b16_s0), .val (.int b20_s0), .unset] [(.int (([c0, c1, c2, c3].getD fN 0) &&& (255 : Int32)))])) (fun t k => ?_) ?_
        · show Steps p.tables e below (T20.setTop (mkF m 168 #[.val (.int p0), .val (.int p1), .val (.int p2), .val (.int p3), .val (.ref b1), .val (.int (Int32.ofNat fN)), .val (.int (Int32.ofNat lN)), .val (.ref b10), .val (.int (0 : Int32)), .val (.int (own_ind lN ([c0, c1, c2, c3].getD fN 0) ([c0, c1, c2, c3].getD (fN + 1) 0) 0)), .val (.int ([c0, c1, c2, c3].getD fN 0)), .val (.int ([c0, c1, c2, c3].getD (fN + 1) 0)), .val (.int b16_s0), .val (.int b20_s0), .unset] [])) t
          refine XS.iload X20.here hx rfl (hb hby at_168) rfl ?_
          show Steps p.tables e below (T20.setTop (mkF m 170 #[.val (.int p0), .val (.int p1), .val (.int p2), .val (.int p3), .val (.ref b1), .val (.int (Int32.ofNat fN)), .val (.int (Int32.ofNat lN)), .val (.ref b10), .val (.int (0 : Int32)), .val (.int (own_ind lN ([c0, c1, c2, c3].getD fN 0) ([c0, c1, c2, c3].getD (fN + 1) 0) 0)), .val (.int ([c0, c1, c2, c3].getD fN 0)), .val (.int ([c0, c1, c2, c3].getD (fN + 1) 0)), .val (.int b16_s0), .val (.int b20_s0), .unset] [(.int ([c0, c1, c2, c3].getD fN 0))])) _
          refine XS.sipush X20.here hx rfl (hb hby at_170) ?_
          show Steps p.tables e below (T20.setTop (mkF m 173 #[.val (.int p0), .val (.int p1), .val (.int p2), .val (.int p3), .val (.ref b1), .val (.int (Int32.ofNat fN)), .val (.int (Int32.ofNat lN)), .val (.ref b10), .val (.int (0 : Int32)), .val (.int (own_ind lN ([c0, c1, c2, c3].getD fN 0) ([c0, c1, c2, c3].getD (fN + 1) 0) 0)), .val (.int ([c0, c1, c2, c3].getD fN 0)), .val (.int ([c0, c1, c2, c3].getD (fN + 1) 0)), .val (.int b16_s0), .val (.int b20_s0), .unset] [(.int (255 : Int32)), (.int ([c0, c1, c2, c3].getD fN 0))])) _
          refine XS.iand X20.here hx rfl (hb hby at_173) rfl ?_
          show Steps p.tables e below (T20.setTop (mkF m 174 #[.val (.int p0), .val (.int p1), .val (.int p2), .val (.int p3), .val (.ref b1), .val (.int (Int32.ofNat fN)), .val (.int (Int32.ofNat lN)), .val (.ref b10), .val (.int (0 : Int32)), .val (.int (own_ind lN ([c0, c1, c2, c3].getD fN 0) ([c0, c1, c2, c3].getD (fN + 1) 0) 0)), .val (.int ([c0, c1, c2, c3].getD fN 0)), .val (.int ([c0, c1, c2, c3].getD (fN + 1) 0)), .val (.int b16_s0), .val (.int b20_s0), .unset] [(.int (([c0, c1, c2, c3].getD fN 0) &&& (255 : Int32)))])) _
          refine XS.goto X20.here hx rfl (pc0 := 174) (pc' := 178) rfl (hb hby at_174) (by decide) (by decide) ?_
          show Steps p.tables e below (T20.setTop (mkF m 178 #[.val (.int p0), .val (.int p1), .val (.int p2), .val (.int p3), .val (.ref b1), .val (.int (Int32.ofNat fN)), .val (.int (Int32.ofNat lN)), .val (.ref b10), .val (.int (0 : Int32)), .val (.int (own_ind lN ([c0, c1, c2, c3].getD fN 0) ([c0, c1, c2, c3].getD (fN + 1) 0) 0)), .val (.int ([c0, c1, c2, c3].getD fN 0)), .val (.int ([c0, c1, c2, c3].getD (fN + 1) 0)), .val (.int b16_s0), .val (.int b20_s0), .unset] [(.int (([c0, c1, c2, c3].getD fN 0) &&& (255 : Int32)))])) _
          exact k
        exact w22 _ _ X20 e20 N20 (([c0, c1, c2, c3].getD fN 0) &&& (255 : Int32)) (by rw [if_neg hm165_21])
    intro T22 L22 X22 e22 N22 b22_s0 h_b22_s0
    refine own_goW (T' := T22) (g' := (mkF m 204 #[.val (.int p0), .val (.int p1), .val (.int p2), .val (.int p3), .val (.ref b1), .val (.int (Int32.ofNat fN)), .val (.int (Int32.ofNat lN)), .val (.ref b10), .val (.int (0 : Int32)), .val (.int (own_ind lN ([c0, c1, c2, c3].getD fN 0) ([c0, c1, c2, c3].getD (fN + 1) 0) 0)), .val (.int ([c0, c1, c2, c3].getD fN 0)), .val (.int ([c0, c1, c2, c3].getD (fN + 1) 0)), .val (.int b16_s0), .val (.int b20_s0), .val (.int b22_s0)] [(.int b22_s0), (.int (own_ind lN ([c0, c1, c2, c3].getD fN 0) ([c0, c1, c2, c3].getD (fN + 1) 0) 0))])) (fun t k => ?_) ?_
    · show Steps p.tables e below (T22.setTop (mkF m 178 #[.val (.int p0), .val (.int p1), .val (.int p2), .val (.int p3), .val (.ref b1), .val (.int (Int32.ofNat fN)), .val (.int (Int32.ofNat lN)), .val (.ref b10), .val (.int (0 : Int32)), .val (.int (own_ind lN ([c0, c1, c2, c3].getD fN 0) ([c0, c1, c2, c3].getD (fN + 1) 0) 0)), .val (.int ([c0, c1, c2, c3].getD fN 0)), .val (.int ([c0, c1, c2, c3].getD (fN + 1) 0)), .val (.int b16_s0), .val (.int b20_s0), .unset] [(.int b22_s0)])) t
      refine XS.istore X22.here hx rfl (hb hby at_178) rfl (l' := #[.val (.int p0), .val (.int p1), .val (.int p2), .val (.int p3), .val (.ref b1), .val (.int (Int32.ofNat fN)), .val (.int (Int32.ofNat lN)), .val (.ref b10), .val (.int (0 : Int32)), .val (.int (own_ind lN ([c0, c1, c2, c3].getD fN 0) ([c0, c1, c2, c3].getD (fN + 1) 0) 0)), .val (.int ([c0, c1, c2, c3].getD fN 0)), .val (.int ([c0, c1, c2, c3].getD (fN + 1) 0)), .val (.int b16_s0), .val (.int b20_s0), .val (.int b22_s0)]) rfl ?_
      show Steps p.tables e below (T22.setTop (mkF m 180 #[.val (.int p0), .val (.int p1), .val (.int p2), .val (.int p3), .val (.ref b1), .val (.int (Int32.ofNat fN)), .val (.int (Int32.ofNat lN)), .val (.ref b10), .val (.int (0 : Int32)), .val (.int (own_ind lN ([c0, c1, c2, c3].getD fN 0) ([c0, c1, c2, c3].getD (fN + 1) 0) 0)), .val (.int ([c0, c1, c2, c3].getD fN 0)), .val (.int ([c0, c1, c2, c3].getD (fN + 1) 0)), .val (.int b16_s0), .val (.int b20_s0), .val (.int b22_s0)] [])) _
      refine XS.goto X22.here hx rfl (pc0 := 180) (pc' := 200) rfl (hb hby at_180) (by decide) (by decide) ?_
      show Steps p.tables e below (T22.setTop (mkF m 200 #[.val (.int p0), .val (.int p1), .val (.int p2), .val (.int p3), .val (.ref b1), .val (.int (Int32.ofNat fN)), .val (.int (Int32.ofNat lN)), .val (.ref b10), .val (.int (0 : Int32)), .val (.int (own_ind lN ([c0, c1, c2, c3].getD fN 0) ([c0, c1, c2, c3].getD (fN + 1) 0) 0)), .val (.int ([c0, c1, c2, c3].getD fN 0)), .val (.int ([c0, c1, c2, c3].getD (fN + 1) 0)), .val (.int b16_s0), .val (.int b20_s0), .val (.int b22_s0)] [])) _
      refine XS.iload X22.here hx rfl (hb hby at_200) rfl ?_
      show Steps p.tables e below (T22.setTop (mkF m 202 #[.val (.int p0), .val (.int p1), .val (.int p2), .val (.int p3), .val (.ref b1), .val (.int (Int32.ofNat fN)), .val (.int (Int32.ofNat lN)), .val (.ref b10), .val (.int (0 : Int32)), .val (.int (own_ind lN ([c0, c1, c2, c3].getD fN 0) ([c0, c1, c2, c3].getD (fN + 1) 0) 0)), .val (.int ([c0, c1, c2, c3].getD fN 0)), .val (.int ([c0, c1, c2, c3].getD (fN + 1) 0)), .val (.int b16_s0), .val (.int b20_s0), .val (.int b22_s0)] [(.int (own_ind lN ([c0, c1, c2, c3].getD fN 0) ([c0, c1, c2, c3].getD (fN + 1) 0) 0))])) _
      refine XS.iload X22.here hx rfl (hb hby at_202) rfl ?_
      show Steps p.tables e below (T22.setTop (mkF m 204 #[.val (.int p0), .val (.int p1), .val (.int p2), .val (.int p3), .val (.ref b1), .val (.int (Int32.ofNat fN)), .val (.int (Int32.ofNat lN)), .val (.ref b10), .val (.int (0 : Int32)), .val (.int (own_ind lN ([c0, c1, c2, c3].getD fN 0) ([c0, c1, c2, c3].getD (fN + 1) 0) 0)), .val (.int ([c0, c1, c2, c3].getD fN 0)), .val (.int ([c0, c1, c2, c3].getD (fN + 1) 0)), .val (.int b16_s0), .val (.int b20_s0), .val (.int b22_s0)] [(.int b22_s0), (.int (own_ind lN ([c0, c1, c2, c3].getD fN 0) ([c0, c1, c2, c3].getD (fN + 1) 0) 0))])) _
      exact k
    refine own_goW (T' := T22) (g' := (mkF m 212 #[.val (.int p0), .val (.int p1), .val (.int p2), .val (.int p3), .val (.ref b1), .val (.int (Int32.ofNat fN)), .val (.int (Int32.ofNat lN)), .val (.ref b10), .val (.int (0 : Int32)), .val (.int (own_ind lN ([c0, c1, c2, c3].getD fN 0) ([c0, c1, c2, c3].getD (fN + 1) 0) 0)), .val (.int ([c0, c1, c2, c3].getD fN 0)), .val (.int ([c0, c1, c2, c3].getD (fN + 1) 0)), .val (.int b16_s0), .val (.int b20_s0), .val (.int b22_s0)] [(.int (1 : Int32))])) (fun t k => ?_) ?_
    · show Steps p.tables e below (T22.setTop (mkF m 204 #[.val (.int p0), .val (.int p1), .val (.int p2), .val (.int p3), .val (.ref b1), .val (.int (Int32.ofNat fN)), .val (.int (Int32.ofNat lN)), .val (.ref b10), .val (.int (0 : Int32)), .val (.int (own_ind lN ([c0, c1, c2, c3].getD fN 0) ([c0, c1, c2, c3].getD (fN + 1) 0) 0)), .val (.int ([c0, c1, c2, c3].getD fN 0)), .val (.int ([c0, c1, c2, c3].getD (fN + 1) 0)), .val (.int b16_s0), .val (.int b20_s0), .val (.int b22_s0)] [(.int b22_s0), (.int (own_ind lN ([c0, c1, c2, c3].getD fN 0) ([c0, c1, c2, c3].getD (fN + 1) 0) 0))])) t
      refine XS.icmpNo X22.here hx rfl (hb hby at_204) rfl (teq (own_law0 hl h_b16_s0 h_b20_s0 h_b22_s0)).2 ?_
      show Steps p.tables e below (T22.setTop (mkF m 207 #[.val (.int p0), .val (.int p1), .val (.int p2), .val (.int p3), .val (.ref b1), .val (.int (Int32.ofNat fN)), .val (.int (Int32.ofNat lN)), .val (.ref b10), .val (.int (0 : Int32)), .val (.int (own_ind lN ([c0, c1, c2, c3].getD fN 0) ([c0, c1, c2, c3].getD (fN + 1) 0) 0)), .val (.int ([c0, c1, c2, c3].getD fN 0)), .val (.int ([c0, c1, c2, c3].getD (fN + 1) 0)), .val (.int b16_s0), .val (.int b20_s0), .val (.int b22_s0)] [])) _
      refine XS.iconst X22.here hx rfl (hb hby at_207) ?_
      show Steps p.tables e below (T22.setTop (mkF m 208 #[.val (.int p0), .val (.int p1), .val (.int p2), .val (.int p3), .val (.ref b1), .val (.int (Int32.ofNat fN)), .val (.int (Int32.ofNat lN)), .val (.ref b10), .val (.int (0 : Int32)), .val (.int (own_ind lN ([c0, c1, c2, c3].getD fN 0) ([c0, c1, c2, c3].getD (fN + 1) 0) 0)), .val (.int ([c0, c1, c2, c3].getD fN 0)), .val (.int ([c0, c1, c2, c3].getD (fN + 1) 0)), .val (.int b16_s0), .val (.int b20_s0), .val (.int b22_s0)] [(.int (1 : Int32))])) _
      refine XS.goto X22.here hx rfl (pc0 := 208) (pc' := 212) rfl (hb hby at_208) (by decide) (by decide) ?_
      show Steps p.tables e below (T22.setTop (mkF m 212 #[.val (.int p0), .val (.int p1), .val (.int p2), .val (.int p3), .val (.ref b1), .val (.int (Int32.ofNat fN)), .val (.int (Int32.ofNat lN)), .val (.ref b10), .val (.int (0 : Int32)), .val (.int (own_ind lN ([c0, c1, c2, c3].getD fN 0) ([c0, c1, c2, c3].getD (fN + 1) 0) 0)), .val (.int ([c0, c1, c2, c3].getD fN 0)), .val (.int ([c0, c1, c2, c3].getD (fN + 1) 0)), .val (.int b16_s0), .val (.int b20_s0), .val (.int b22_s0)] [(.int (1 : Int32))])) _
      exact k
    exact own_retNW X22 hx hlk hS (by rw [e22]; exact sy_12) hret (by simp) (hb hby at_212) (by decide) (by decide) N22 ⟨rfl, trivial⟩
  · refine own_goW (T' := T12) (g' := (mkF m 93 #[.val (.int p0), .val (.int p1), .val (.int p2), .val (.int p3), .val (.ref b1), .val (.int (Int32.ofNat fN)), .val (.int (Int32.ofNat lN)), .val (.ref b10), .val (.int (1 : Int32)), .unset, .unset, .unset, .unset, .unset, .unset] [(.int (1 : Int32)), (.ref b10)])) (fun t k => ?_) ?_
    · show Steps p.tables e below (T12.setTop (mkF m 89 #[.val (.int p0), .val (.int p1), .val (.int p2), .val (.int p3), .val (.ref b1), .val (.int (Int32.ofNat fN)), .val (.int (Int32.ofNat lN)), .val (.ref b10), .val (.int (1 : Int32)), .unset, .unset, .unset, .unset, .unset, .unset] [])) t
      refine XS.aload X12.here hx rfl (hb hby at_89) rfl rfl ?_
      show Steps p.tables e below (T12.setTop (mkF m 91 #[.val (.int p0), .val (.int p1), .val (.int p2), .val (.int p3), .val (.ref b1), .val (.int (Int32.ofNat fN)), .val (.int (Int32.ofNat lN)), .val (.ref b10), .val (.int (1 : Int32)), .unset, .unset, .unset, .unset, .unset, .unset] [(.ref b10)])) _
      refine XS.iload X12.here hx rfl (hb hby at_91) rfl ?_
      show Steps p.tables e below (T12.setTop (mkF m 93 #[.val (.int p0), .val (.int p1), .val (.int p2), .val (.int p3), .val (.ref b1), .val (.int (Int32.ofNat fN)), .val (.int (Int32.ofNat lN)), .val (.ref b10), .val (.int (1 : Int32)), .unset, .unset, .unset, .unset, .unset, .unset] [(.int (1 : Int32)), (.ref b10)])) _
      exact k
    obtain ⟨_, T23, L23, X23, N23, ⟨rfl, e23⟩, st23⟩ := own_callV X12 hx hZ hown (hw _ (List.mem_of_getElem? (i := 43) rfl)) (hw _ (List.mem_of_getElem? (i := 44) rfl)) (hw _ (List.mem_of_getElem? (i := 46) rfl)) (hw _ (List.mem_of_getElem? (i := 45) rfl)) (hw _ (List.mem_of_getElem? (i := 7) rfl)) (hw _ (List.mem_of_getElem? (i := 47) rfl)) (by decide) (a := b10) (argsL := [(.int (1 : Int32))]) (rest := []) (rm8_1 l Z a0 hw b10 (1 : Int32) bq kq (own_us [(.int c0), (.int c1), (.int c2), (.int c3)] fN lN) lN ([c0, c1, c2, c3].getD fN 0) ([c0, c1, c2, c3].getD (fN + 1) 0) T12.heap n0 Q12e Q12d Q12v rfl hl (own_u0 [c0, c1, c2, c3]) (own_u1 [c0, c1, c2, c3])) (W := 0) (by decide) (by decide) Q12e (g := (mkF m 93 #[.val (.int p0), .val (.int p1), .val (.int p2), .val (.int p3), .val (.ref b1), .val (.int (Int32.ofNat fN)), .val (.int (Int32.ofNat lN)), .val (.ref b10), .val (.int (1 : Int32)), .unset, .unset, .unset, .unset, .unset, .unset] [(.int (1 : Int32)), (.ref b10)])) rfl (by rw [hml]; rfl) pd_5 rfl rfl (by show 2 * 0 + _ ≤ _; exact Nat.le_of_eq rfl) (hb hby at_93) rfl (by decide) (by decide) N12
    refine own_goW (T' := T23) (g' := (mkF m 96 #[.val (.int p0), .val (.int p1), .val (.int p2), .val (.int p3), .val (.ref b1), .val (.int (Int32.ofNat fN)), .val (.int (Int32.ofNat lN)), .val (.ref b10), .val (.int (1 : Int32)), .unset, .unset, .unset, .unset, .unset, .unset] [(.int (own_ind lN ([c0, c1, c2, c3].getD fN 0) ([c0, c1, c2, c3].getD (fN + 1) 0) 1))])) st23 ?_
    refine own_goW (T' := T23) (g' := (mkF m 111 #[.val (.int p0), .val (.int p1), .val (.int p2), .val (.int p3), .val (.ref b1), .val (.int (Int32.ofNat fN)), .val (.int (Int32.ofNat lN)), .val (.ref b10), .val (.int (1 : Int32)), .val (.int (own_ind lN ([c0, c1, c2, c3].getD fN 0) ([c0, c1, c2, c3].getD (fN + 1) 0) 1)), .val (.int ([c0, c1, c2, c3].getD fN 0)), .unset, .unset, .unset, .unset] [(.int ((Int32.ofNat fN) + (1 : Int32))), (.ref b1)])) (fun t k => ?_) ?_
    · show Steps p.tables e below (T23.setTop (mkF m 96 #[.val (.int p0), .val (.int p1), .val (.int p2), .val (.int p3), .val (.ref b1), .val (.int (Int32.ofNat fN)), .val (.int (Int32.ofNat lN)), .val (.ref b10), .val (.int (1 : Int32)), .unset, .unset, .unset, .unset, .unset, .unset] [(.int (own_ind lN ([c0, c1, c2, c3].getD fN 0) ([c0, c1, c2, c3].getD (fN + 1) 0) 1))])) t
      refine XS.istore X23.here hx rfl (hb hby at_96) rfl (l' := #[.val (.int p0), .val (.int p1), .val (.int p2), .val (.int p3), .val (.ref b1), .val (.int (Int32.ofNat fN)), .val (.int (Int32.ofNat lN)), .val (.ref b10), .val (.int (1 : Int32)), .val (.int (own_ind lN ([c0, c1, c2, c3].getD fN 0) ([c0, c1, c2, c3].getD (fN + 1) 0) 1)), .unset, .unset, .unset, .unset, .unset]) rfl ?_
      show Steps p.tables e below (T23.setTop (mkF m 98 #[.val (.int p0), .val (.int p1), .val (.int p2), .val (.int p3), .val (.ref b1), .val (.int (Int32.ofNat fN)), .val (.int (Int32.ofNat lN)), .val (.ref b10), .val (.int (1 : Int32)), .val (.int (own_ind lN ([c0, c1, c2, c3].getD fN 0) ([c0, c1, c2, c3].getD (fN + 1) 0) 1)), .unset, .unset, .unset, .unset, .unset] [])) _
      refine XS.aload X23.here hx rfl (hb hby at_98) rfl rfl ?_
      show Steps p.tables e below (T23.setTop (mkF m 100 #[.val (.int p0), .val (.int p1), .val (.int p2), .val (.int p3), .val (.ref b1), .val (.int (Int32.ofNat fN)), .val (.int (Int32.ofNat lN)), .val (.ref b10), .val (.int (1 : Int32)), .val (.int (own_ind lN ([c0, c1, c2, c3].getD fN 0) ([c0, c1, c2, c3].getD (fN + 1) 0) 1)), .unset, .unset, .unset, .unset, .unset] [(.ref b1)])) _
      refine XS.iload X23.here hx rfl (hb hby at_100) rfl ?_
      show Steps p.tables e below (T23.setTop (mkF m 102 #[.val (.int p0), .val (.int p1), .val (.int p2), .val (.int p3), .val (.ref b1), .val (.int (Int32.ofNat fN)), .val (.int (Int32.ofNat lN)), .val (.ref b10), .val (.int (1 : Int32)), .val (.int (own_ind lN ([c0, c1, c2, c3].getD fN 0) ([c0, c1, c2, c3].getD (fN + 1) 0) 1)), .unset, .unset, .unset, .unset, .unset] [(.int (Int32.ofNat fN)), (.ref b1)])) _
      refine own_ldB X23 hx hZ e23 V_b1_12 (j := (Int32.ofNat fN)) (own_k4 (by omega)) (v := (.int ([c0, c1, c2, c3].getD fN 0))) (own_gd [c0, c1, c2, c3] (by omega)) (g := (mkF m 102 #[.val (.int p0), .val (.int p1), .val (.int p2), .val (.int p3), .val (.ref b1), .val (.int (Int32.ofNat fN)), .val (.int (Int32.ofNat lN)), .val (.ref b10), .val (.int (1 : Int32)), .val (.int (own_ind lN ([c0, c1, c2, c3].getD fN 0) ([c0, c1, c2, c3].getD (fN + 1) 0) 1)), .unset, .unset, .unset, .unset, .unset] [(.int (Int32.ofNat fN)), (.ref b1)])) rfl rfl (hb hby at_102) _ ?_
      show Steps p.tables e below (T23.setTop (mkF m 103 #[.val (.int p0), .val (.int p1), .val (.int p2), .val (.int p3), .val (.ref b1), .val (.int (Int32.ofNat fN)), .val (.int (Int32.ofNat lN)), .val (.ref b10), .val (.int (1 : Int32)), .val (.int (own_ind lN ([c0, c1, c2, c3].getD fN 0) ([c0, c1, c2, c3].getD (fN + 1) 0) 1)), .unset, .unset, .unset, .unset, .unset] [(.int ([c0, c1, c2, c3].getD fN 0))])) _
      refine XS.istore X23.here hx rfl (hb hby at_103) rfl (l' := #[.val (.int p0), .val (.int p1), .val (.int p2), .val (.int p3), .val (.ref b1), .val (.int (Int32.ofNat fN)), .val (.int (Int32.ofNat lN)), .val (.ref b10), .val (.int (1 : Int32)), .val (.int (own_ind lN ([c0, c1, c2, c3].getD fN 0) ([c0, c1, c2, c3].getD (fN + 1) 0) 1)), .val (.int ([c0, c1, c2, c3].getD fN 0)), .unset, .unset, .unset, .unset]) rfl ?_
      show Steps p.tables e below (T23.setTop (mkF m 105 #[.val (.int p0), .val (.int p1), .val (.int p2), .val (.int p3), .val (.ref b1), .val (.int (Int32.ofNat fN)), .val (.int (Int32.ofNat lN)), .val (.ref b10), .val (.int (1 : Int32)), .val (.int (own_ind lN ([c0, c1, c2, c3].getD fN 0) ([c0, c1, c2, c3].getD (fN + 1) 0) 1)), .val (.int ([c0, c1, c2, c3].getD fN 0)), .unset, .unset, .unset, .unset] [])) _
      refine XS.aload X23.here hx rfl (hb hby at_105) rfl rfl ?_
      show Steps p.tables e below (T23.setTop (mkF m 107 #[.val (.int p0), .val (.int p1), .val (.int p2), .val (.int p3), .val (.ref b1), .val (.int (Int32.ofNat fN)), .val (.int (Int32.ofNat lN)), .val (.ref b10), .val (.int (1 : Int32)), .val (.int (own_ind lN ([c0, c1, c2, c3].getD fN 0) ([c0, c1, c2, c3].getD (fN + 1) 0) 1)), .val (.int ([c0, c1, c2, c3].getD fN 0)), .unset, .unset, .unset, .unset] [(.ref b1)])) _
      refine XS.iload X23.here hx rfl (hb hby at_107) rfl ?_
      show Steps p.tables e below (T23.setTop (mkF m 109 #[.val (.int p0), .val (.int p1), .val (.int p2), .val (.int p3), .val (.ref b1), .val (.int (Int32.ofNat fN)), .val (.int (Int32.ofNat lN)), .val (.ref b10), .val (.int (1 : Int32)), .val (.int (own_ind lN ([c0, c1, c2, c3].getD fN 0) ([c0, c1, c2, c3].getD (fN + 1) 0) 1)), .val (.int ([c0, c1, c2, c3].getD fN 0)), .unset, .unset, .unset, .unset] [(.int (Int32.ofNat fN)), (.ref b1)])) _
      refine XS.iconst X23.here hx rfl (hb hby at_109) ?_
      show Steps p.tables e below (T23.setTop (mkF m 110 #[.val (.int p0), .val (.int p1), .val (.int p2), .val (.int p3), .val (.ref b1), .val (.int (Int32.ofNat fN)), .val (.int (Int32.ofNat lN)), .val (.ref b10), .val (.int (1 : Int32)), .val (.int (own_ind lN ([c0, c1, c2, c3].getD fN 0) ([c0, c1, c2, c3].getD (fN + 1) 0) 1)), .val (.int ([c0, c1, c2, c3].getD fN 0)), .unset, .unset, .unset, .unset] [(.int (1 : Int32)), (.int (Int32.ofNat fN)), (.ref b1)])) _
      refine XS.iadd X23.here hx rfl (hb hby at_110) rfl ?_
      show Steps p.tables e below (T23.setTop (mkF m 111 #[.val (.int p0), .val (.int p1), .val (.int p2), .val (.int p3), .val (.ref b1), .val (.int (Int32.ofNat fN)), .val (.int (Int32.ofNat lN)), .val (.ref b10), .val (.int (1 : Int32)), .val (.int (own_ind lN ([c0, c1, c2, c3].getD fN 0) ([c0, c1, c2, c3].getD (fN + 1) 0) 1)), .val (.int ([c0, c1, c2, c3].getD fN 0)), .unset, .unset, .unset, .unset] [(.int ((Int32.ofNat fN) + (1 : Int32))), (.ref b1)])) _
      exact k
    rw [own_inc]
    refine own_goW (T' := T23) (g' := (mkF m 116 #[.val (.int p0), .val (.int p1), .val (.int p2), .val (.int p3), .val (.ref b1), .val (.int (Int32.ofNat fN)), .val (.int (Int32.ofNat lN)), .val (.ref b10), .val (.int (1 : Int32)), .val (.int (own_ind lN ([c0, c1, c2, c3].getD fN 0) ([c0, c1, c2, c3].getD (fN + 1) 0) 1)), .val (.int ([c0, c1, c2, c3].getD fN 0)), .val (.int ([c0, c1, c2, c3].getD (fN + 1) 0)), .unset, .unset, .unset] [(.int (Int32.ofNat lN))])) (fun t k => ?_) ?_
    · show Steps p.tables e below (T23.setTop (mkF m 111 #[.val (.int p0), .val (.int p1), .val (.int p2), .val (.int p3), .val (.ref b1), .val (.int (Int32.ofNat fN)), .val (.int (Int32.ofNat lN)), .val (.ref b10), .val (.int (1 : Int32)), .val (.int (own_ind lN ([c0, c1, c2, c3].getD fN 0) ([c0, c1, c2, c3].getD (fN + 1) 0) 1)), .val (.int ([c0, c1, c2, c3].getD fN 0)), .unset, .unset, .unset, .unset] [(.int (Int32.ofNat (fN + 1))), (.ref b1)])) t
      refine own_ldB X23 hx hZ e23 V_b1_12 (j := (Int32.ofNat (fN + 1))) (own_k4 (by omega)) (v := (.int ([c0, c1, c2, c3].getD (fN + 1) 0))) (own_gd [c0, c1, c2, c3] (by omega)) (g := (mkF m 111 #[.val (.int p0), .val (.int p1), .val (.int p2), .val (.int p3), .val (.ref b1), .val (.int (Int32.ofNat fN)), .val (.int (Int32.ofNat lN)), .val (.ref b10), .val (.int (1 : Int32)), .val (.int (own_ind lN ([c0, c1, c2, c3].getD fN 0) ([c0, c1, c2, c3].getD (fN + 1) 0) 1)), .val (.int ([c0, c1, c2, c3].getD fN 0)), .unset, .unset, .unset, .unset] [(.int (Int32.ofNat (fN + 1))), (.ref b1)])) rfl rfl (hb hby at_111) _ ?_
      show Steps p.tables e below (T23.setTop (mkF m 112 #[.val (.int p0), .val (.int p1), .val (.int p2), .val (.int p3), .val (.ref b1), .val (.int (Int32.ofNat fN)), .val (.int (Int32.ofNat lN)), .val (.ref b10), .val (.int (1 : Int32)), .val (.int (own_ind lN ([c0, c1, c2, c3].getD fN 0) ([c0, c1, c2, c3].getD (fN + 1) 0) 1)), .val (.int ([c0, c1, c2, c3].getD fN 0)), .unset, .unset, .unset, .unset] [(.int ([c0, c1, c2, c3].getD (fN + 1) 0))])) _
      refine XS.istore X23.here hx rfl (hb hby at_112) rfl (l' := #[.val (.int p0), .val (.int p1), .val (.int p2), .val (.int p3), .val (.ref b1), .val (.int (Int32.ofNat fN)), .val (.int (Int32.ofNat lN)), .val (.ref b10), .val (.int (1 : Int32)), .val (.int (own_ind lN ([c0, c1, c2, c3].getD fN 0) ([c0, c1, c2, c3].getD (fN + 1) 0) 1)), .val (.int ([c0, c1, c2, c3].getD fN 0)), .val (.int ([c0, c1, c2, c3].getD (fN + 1) 0)), .unset, .unset, .unset]) rfl ?_
      show Steps p.tables e below (T23.setTop (mkF m 114 #[.val (.int p0), .val (.int p1), .val (.int p2), .val (.int p3), .val (.ref b1), .val (.int (Int32.ofNat fN)), .val (.int (Int32.ofNat lN)), .val (.ref b10), .val (.int (1 : Int32)), .val (.int (own_ind lN ([c0, c1, c2, c3].getD fN 0) ([c0, c1, c2, c3].getD (fN + 1) 0) 1)), .val (.int ([c0, c1, c2, c3].getD fN 0)), .val (.int ([c0, c1, c2, c3].getD (fN + 1) 0)), .unset, .unset, .unset] [])) _
      refine XS.iload X23.here hx rfl (hb hby at_114) rfl ?_
      show Steps p.tables e below (T23.setTop (mkF m 116 #[.val (.int p0), .val (.int p1), .val (.int p2), .val (.int p3), .val (.ref b1), .val (.int (Int32.ofNat fN)), .val (.int (Int32.ofNat lN)), .val (.ref b10), .val (.int (1 : Int32)), .val (.int (own_ind lN ([c0, c1, c2, c3].getD fN 0) ([c0, c1, c2, c3].getD (fN + 1) 0) 1)), .val (.int ([c0, c1, c2, c3].getD fN 0)), .val (.int ([c0, c1, c2, c3].getD (fN + 1) 0)), .unset, .unset, .unset] [(.int (Int32.ofNat lN))])) _
      exact k
    suffices w26 : ∀ (T26 : State) (L26 : List Loc) (X26 : Stand p l e room_1 (s.setVm T11.vm) m #[(.int p0), (.int p1), (.int p2), (.int p3)] below meth c T26 L26 5 26) (e26 : T26.heap = T12.heap) (N26 : Fr n0 L26) (b26_s0 : Int32) (h_b26_s0 : b26_s0 = (if (0 : Int32) < (Int32.ofNat lN) then (if ([c0, c1, c2, c3].getD fN 0) = (31 : Int32) then (0 : Int32) else (1 : Int32)) else (0 : Int32))), own_EndsW p e below s n0 room_1.cells room_1.slots T26 (mkF m 131 #[.val (.int p0), .val (.int p1), .val (.int p2), .val (.int p3), .val (.ref b1), .val (.int (Int32.ofNat fN)), .val (.int (Int32.ofNat lN)), .val (.ref b10), .val (.int (1 : Int32)), .val (.int (own_ind lN ([c0, c1, c2, c3].getD fN 0) ([c0, c1, c2, c3].getD (fN + 1) 0) 1)), .val (.int ([c0, c1, c2, c3].getD fN 0)), .val (.int ([c0, c1, c2, c3].getD (fN + 1) 0)), .unset, .unset, .unset] [(.int b26_s0)]) own_Q0 by
      by_cases hm116_24 : (0 : Int32) < (Int32.ofNat lN)
      · refine own_goW (T' := T23) (g' := (mkF m 119 #[.val (.int p0), .val (.int p1), .val (.int p2), .val (.int p3), .val (.ref b1), .val (.int (Int32.ofNat fN)), .val (.int (Int32.ofNat lN)), .val (.ref b10), .val (.int (1 : Int32)), .val (.int (own_ind lN ([c0, c1, c2, c3].getD fN 0) ([c0, c1, c2, c3].getD (fN + 1) 0) 1)), .val (.int ([c0, c1, c2, c3].getD fN 0)), .val (.int ([c0, c1, c2, c3].getD (fN + 1) 0)), .unset, .unset, .unset] [])) (fun t k => ?_) ?_
        · refine XS.ifNo X23.here hx rfl (hb hby at_116) rfl ((if0 _ _).trans (tlt hm116_24).2.2.2) ?_
          exact k
        refine own_goW (T' := T23) (g' := (mkF m 123 #[.val (.int p0), .val (.int p1), .val (.int p2), .val (.int p3), .val (.ref b1), .val (.int (Int32.ofNat fN)), .val (.int (Int32.ofNat lN)), .val (.ref b10), .val (.int (1 : Int32)), .val (.int (own_ind lN ([c0, c1, c2, c3].getD fN 0) ([c0, c1, c2, c3].getD (fN + 1) 0) 1)), .val (.int ([c0, c1, c2, c3].getD fN 0)), .val (.int ([c0, c1, c2, c3].getD (fN + 1) 0)), .unset, .unset, .unset] [(.int (31 : Int32)), (.int ([c0, c1, c2, c3].getD fN 0))])) (fun t k => ?_) ?_
        · show Steps p.tables e below (T23.setTop (mkF m 119 #[.val (.int p0), .val (.int p1), .val (.int p2), .val (.int p3), .val (.ref b1), .val (.int (Int32.ofNat fN)), .val (.int (Int32.ofNat lN)), .val (.ref b10), .val (.int (1 : Int32)), .val (.int (own_ind lN ([c0, c1, c2, c3].getD fN 0) ([c0, c1, c2, c3].getD (fN + 1) 0) 1)), .val (.int ([c0, c1, c2, c3].getD fN 0)), .val (.int ([c0, c1, c2, c3].getD (fN + 1) 0)), .unset, .unset, .unset] [])) t
          refine XS.iload X23.here hx rfl (hb hby at_119) rfl ?_
          show Steps p.tables e below (T23.setTop (mkF m 121 #[.val (.int p0), .val (.int p1), .val (.int p2), .val (.int p3), .val (.ref b1), .val (.int (Int32.ofNat fN)), .val (.int (Int32.ofNat lN)), .val (.ref b10), .val (.int (1 : Int32)), .val (.int (own_ind lN ([c0, c1, c2, c3].getD fN 0) ([c0, c1, c2, c3].getD (fN + 1) 0) 1)), .val (.int ([c0, c1, c2, c3].getD fN 0)), .val (.int ([c0, c1, c2, c3].getD (fN + 1) 0)), .unset, .unset, .unset] [(.int ([c0, c1, c2, c3].getD fN 0))])) _
          refine XS.bipush X23.here hx rfl (hb hby at_121) ?_
          show Steps p.tables e below (T23.setTop (mkF m 123 #[.val (.int p0), .val (.int p1), .val (.int p2), .val (.int p3), .val (.ref b1), .val (.int (Int32.ofNat fN)), .val (.int (Int32.ofNat lN)), .val (.ref b10), .val (.int (1 : Int32)), .val (.int (own_ind lN ([c0, c1, c2, c3].getD fN 0) ([c0, c1, c2, c3].getD (fN + 1) 0) 1)), .val (.int ([c0, c1, c2, c3].getD fN 0)), .val (.int ([c0, c1, c2, c3].getD (fN + 1) 0)), .unset, .unset, .unset] [(.int (31 : Int32)), (.int ([c0, c1, c2, c3].getD fN 0))])) _
          exact k
        by_cases hm123_25 : ([c0, c1, c2, c3].getD fN 0) = (31 : Int32)
        · refine own_goW (T' := T23) (g' := (mkF m 130 #[.val (.int p0), .val (.int p1), .val (.int p2), .val (.int p3), .val (.ref b1), .val (.int (Int32.ofNat fN)), .val (.int (Int32.ofNat lN)), .val (.ref b10), .val (.int (1 : Int32)), .val (.int (own_ind lN ([c0, c1, c2, c3].getD fN 0) ([c0, c1, c2, c3].getD (fN + 1) 0) 1)), .val (.int ([c0, c1, c2, c3].getD fN 0)), .val (.int ([c0, c1, c2, c3].getD (fN + 1) 0)), .unset, .unset, .unset] [])) (fun t k => ?_) ?_
          · refine XS.icmpYes X23.here hx rfl (pc0 := 123) (pc' := 130) rfl (hb hby at_123) rfl (teq hm123_25).1 (by decide) (by decide) ?_
            exact k
          refine own_goW (T' := T23) (g' := (mkF m 131 #[.val (.int p0), .val (.int p1), .val (.int p2), .val (.int p3), .val (.ref b1), .val (.int (Int32.ofNat fN)), .val (.int (Int32.ofNat lN)), .val (.ref b10), .val (.int (1 : Int32)), .val (.int (own_ind lN ([c0, c1, c2, c3].getD fN 0) ([c0, c1, c2, c3].getD (fN + 1) 0) 1)), .val (.int ([c0, c1, c2, c3].getD fN 0)), .val (.int ([c0, c1, c2, c3].getD (fN + 1) 0)), .unset, .unset, .unset] [(.int (0 : Int32))])) (fun t k => ?_) ?_
          · show Steps p.tables e below (T23.setTop (mkF m 130 #[.val (.int p0), .val (.int p1), .val (.int p2), .val (.int p3), .val (.ref b1), .val (.int (Int32.ofNat fN)), .val (.int (Int32.ofNat lN)), .val (.ref b10), .val (.int (1 : Int32)), .val (.int (own_ind lN ([c0, c1, c2, c3].getD fN 0) ([c0, c1, c2, c3].getD (fN + 1) 0) 1)), .val (.int ([c0, c1, c2, c3].getD fN 0)), .val (.int ([c0, c1, c2, c3].getD (fN + 1) 0)), .unset, .unset, .unset] [])) t
            refine XS.iconst X23.here hx rfl (hb hby at_130) ?_
            show Steps p.tables e below (T23.setTop (mkF m 131 #[.val (.int p0), .val (.int p1), .val (.int p2), .val (.int p3), .val (.ref b1), .val (.int (Int32.ofNat fN)), .val (.int (Int32.ofNat lN)), .val (.ref b10), .val (.int (1 : Int32)), .val (.int (own_ind lN ([c0, c1, c2, c3].getD fN 0) ([c0, c1, c2, c3].getD (fN + 1) 0) 1)), .val (.int ([c0, c1, c2, c3].getD fN 0)), .val (.int ([c0, c1, c2, c3].getD (fN + 1) 0)), .unset, .unset, .unset] [(.int (0 : Int32))])) _
            exact k
          exact w26 _ _ X23 e23 N23 (0 : Int32) (by rw [if_pos hm116_24, if_pos hm123_25])
        · refine own_goW (T' := T23) (g' := (mkF m 126 #[.val (.int p0), .val (.int p1), .val (.int p2), .val (.int p3), .val (.ref b1), .val (.int (Int32.ofNat fN)), .val (.int (Int32.ofNat lN)), .val (.ref b10), .val (.int (1 : Int32)), .val (.int (own_ind lN ([c0, c1, c2, c3].getD fN 0) ([c0, c1, c2, c3].getD (fN + 1) 0) 1)), .val (.int ([c0, c1, c2, c3].getD fN 0)), .val (.int ([c0, c1, c2, c3].getD (fN + 1) 0)), .unset, .unset, .unset] [])) (fun t k => ?_) ?_
          · refine XS.icmpNo X23.here hx rfl (hb hby at_123) rfl (feq hm123_25).1 ?_
            exact k
          refine own_goW (T' := T23) (g' := (mkF m 131 #[.val (.int p0), .val (.int p1), .val (.int p2), .val (.int p3), .val (.ref b1), .val (.int (Int32.ofNat fN)), .val (.int (Int32.ofNat lN)), .val (.ref b10), .val (.int (1 : Int32)), .val (.int (own_ind lN ([c0, c1, c2, c3].getD fN 0) ([c0, c1, c2, c3].getD (fN + 1) 0) 1)), .val (.int ([c0, c1, c2, c3].getD fN 0)), .val (.int ([c0, c1, c2, c3].getD (fN + 1) 0)), .unset, .unset, .unset] [(.int (1 : Int32))])) (fun t k => ?_) ?_
          · show Steps p.tables e below (T23.setTop (mkF m 126 #[.val (.int p0), .val (.int p1), .val (.int p2), .val (.int p3), .val (.ref b1), .val (.int (Int32.ofNat fN)), .val (.int (Int32.ofNat lN)), .val (.ref b10), .val (.int (1 : Int32)), .val (.int (own_ind lN ([c0, c1, c2, c3].getD fN 0) ([c0, c1, c2, c3].getD (fN + 1) 0) 1)), .val (.int ([c0, c1, c2, c3].getD fN 0)), .val (.int ([c0, c1, c2, c3].getD (fN + 1) 0)), .unset, .unset, .unset] [])) t
            refine XS.iconst X23.here hx rfl (hb hby at_126) ?_
            show Steps p.tables e below (T23.setTop (mkF m 127 #[.val (.int p0), .val (.int p1), .val (.int p2), .val (.int p3), .val (.ref b1), .val (.int (Int32.ofNat fN)), .val (.int (Int32.ofNat lN)), .val (.ref b10), .val (.int (1 : Int32)), .val (.int (own_ind lN ([c0, c1, c2, c3].getD fN 0) ([c0, c1, c2, c3].getD (fN + 1) 0) 1)), .val (.int ([c0, c1, c2, c3].getD fN 0)), .val (.int ([c0, c1, c2, c3].getD (fN + 1) 0)), .unset, .unset, .unset] [(.int (1 : Int32))])) _
            refine XS.goto X23.here hx rfl (pc0 := 127) (pc' := 131) rfl (hb hby at_127) (by decide) (by decide) ?_
            show Steps p.tables e below (T23.setTop (mkF m 131 #[.val (.int p0), .val (.int p1), .val (.int p2), .val (.int p3), .val (.ref b1), .val (.int (Int32.ofNat fN)), .val (.int (Int32.ofNat lN)), .val (.ref b10), .val (.int (1 : Int32)), .val (.int (own_ind lN ([c0, c1, c2, c3].getD fN 0) ([c0, c1, c2, c3].getD (fN + 1) 0) 1)), .val (.int ([c0, c1, c2, c3].getD fN 0)), .val (.int ([c0, c1, c2, c3].getD (fN + 1) 0)), .unset, .unset, .unset] [(.int (1 : Int32))])) _
            exact k
          exact w26 _ _ X23 e23 N23 (1 : Int32) (by rw [if_pos hm116_24, if_neg hm123_25])
      · refine own_goW (T' := T23) (g' := (mkF m 130 #[.val (.int p0), .val (.int p1), .val (.int p2), .val (.int p3), .val (.ref b1), .val (.int (Int32.ofNat fN)), .val (.int (Int32.ofNat lN)), .val (.ref b10), .val (.int (1 : Int32)), .val (.int (own_ind lN ([c0, c1, c2, c3].getD fN 0) ([c0, c1, c2, c3].getD (fN + 1) 0) 1)), .val (.int ([c0, c1, c2, c3].getD fN 0)), .val (.int ([c0, c1, c2, c3].getD (fN + 1) 0)), .unset, .unset, .unset] [])) (fun t k => ?_) ?_
        · refine XS.ifYes X23.here hx rfl (pc0 := 116) (pc' := 130) rfl (hb hby at_116) rfl ((if0 _ _).trans (flt hm116_24).2.2.2) (by decide) (by decide) ?_
          exact k
        refine own_goW (T' := T23) (g' := (mkF m 131 #[.val (.int p0), .val (.int p1), .val (.int p2), .val (.int p3), .val (.ref b1), .val (.int (Int32.ofNat fN)), .val (.int (Int32.ofNat lN)), .val (.ref b10), .val (.int (1 : Int32)), .val (.int (own_ind lN ([c0, c1, c2, c3].getD fN 0) ([c0, c1, c2, c3].getD (fN + 1) 0) 1)), .val (.int ([c0, c1, c2, c3].getD fN 0)), .val (.int ([c0, c1, c2, c3].getD (fN + 1) 0)), .unset, .unset, .unset] [(.int (0 : Int32))])) (fun t k => ?_) ?_
        · show Steps p.tables e below (T23.setTop (mkF m 130 #[.val (.int p0), .val (.int p1), .val (.int p2), .val (.int p3), .val (.ref b1), .val (.int (Int32.ofNat fN)), .val (.int (Int32.ofNat lN)), .val (.ref b10), .val (.int (1 : Int32)), .val (.int (own_ind lN ([c0, c1, c2, c3].getD fN 0) ([c0, c1, c2, c3].getD (fN + 1) 0) 1)), .val (.int ([c0, c1, c2, c3].getD fN 0)), .val (.int ([c0, c1, c2, c3].getD (fN + 1) 0)), .unset, .unset, .unset] [])) t
          refine XS.iconst X23.here hx rfl (hb hby at_130) ?_
          show Steps p.tables e below (T23.setTop (mkF m 131 #[.val (.int p0), .val (.int p1), .val (.int p2), .val (.int p3), .val (.ref b1), .val (.int (Int32.ofNat fN)), .val (.int (Int32.ofNat lN)), .val (.ref b10), .val (.int (1 : Int32)), .val (.int (own_ind lN ([c0, c1, c2, c3].getD fN 0) ([c0, c1, c2, c3].getD (fN + 1) 0) 1)), .val (.int ([c0, c1, c2, c3].getD fN 0)), .val (.int ([c0, c1, c2, c3].getD (fN + 1) 0)), .unset, .unset, .unset] [(.int (0 : Int32))])) _
          exact k
        exact w26 _ _ X23 e23 N23 (0 : Int32) (by rw [if_neg hm116_24])
    intro T26 L26 X26 e26 N26 b26_s0 h_b26_s0
    refine own_goW (T' := T26) (g' := (mkF m 135 #[.val (.int p0), .val (.int p1), .val (.int p2), .val (.int p3), .val (.ref b1), .val (.int (Int32.ofNat fN)), .val (.int (Int32.ofNat lN)), .val (.ref b10), .val (.int (1 : Int32)), .val (.int (own_ind lN ([c0, c1, c2, c3].getD fN 0) ([c0, c1, c2, c3].getD (fN + 1) 0) 1)), .val (.int ([c0, c1, c2, c3].getD fN 0)), .val (.int ([c0, c1, c2, c3].getD (fN + 1) 0)), .val (.int b26_s0), .unset, .unset] [(.int b26_s0)])) (fun t k => ?_) ?_
    · show Steps p.tables e below (T26.setTop (mkF m 131 #[.val (.int p0), .val (.int p1), .val (.int p2), .val (.int p3), .val (.ref b1), .val (.int (Int32.ofNat fN)), .val (.int (Int32.ofNat lN)), .val (.ref b10), .val (.int (1 : Int32)), .val (.int (own_ind lN ([c0, c1, c2, c3].getD fN 0) ([c0, c1, c2, c3].getD (fN + 1) 0) 1)), .val (.int ([c0, c1, c2, c3].getD fN 0)), .val (.int ([c0, c1, c2, c3].getD (fN + 1) 0)), .unset, .unset, .unset] [(.int b26_s0)])) t
      refine XS.istore X26.here hx rfl (hb hby at_131) rfl (l' := #[.val (.int p0), .val (.int p1), .val (.int p2), .val (.int p3), .val (.ref b1), .val (.int (Int32.ofNat fN)), .val (.int (Int32.ofNat lN)), .val (.ref b10), .val (.int (1 : Int32)), .val (.int (own_ind lN ([c0, c1, c2, c3].getD fN 0) ([c0, c1, c2, c3].getD (fN + 1) 0) 1)), .val (.int ([c0, c1, c2, c3].getD fN 0)), .val (.int ([c0, c1, c2, c3].getD (fN + 1) 0)), .val (.int b26_s0), .unset, .unset]) rfl ?_
      show Steps p.tables e below (T26.setTop (mkF m 133 #[.val (.int p0), .val (.int p1), .val (.int p2), .val (.int p3), .val (.ref b1), .val (.int (Int32.ofNat fN)), .val (.int (Int32.ofNat lN)), .val (.ref b10), .val (.int (1 : Int32)), .val (.int (own_ind lN ([c0, c1, c2, c3].getD fN 0) ([c0, c1, c2, c3].getD (fN + 1) 0) 1)), .val (.int ([c0, c1, c2, c3].getD fN 0)), .val (.int ([c0, c1, c2, c3].getD (fN + 1) 0)), .val (.int b26_s0), .unset, .unset] [])) _
      refine XS.iload X26.here hx rfl (hb hby at_133) rfl ?_
      show Steps p.tables e below (T26.setTop (mkF m 135 #[.val (.int p0), .val (.int p1), .val (.int p2), .val (.int p3), .val (.ref b1), .val (.int (Int32.ofNat fN)), .val (.int (Int32.ofNat lN)), .val (.ref b10), .val (.int (1 : Int32)), .val (.int (own_ind lN ([c0, c1, c2, c3].getD fN 0) ([c0, c1, c2, c3].getD (fN + 1) 0) 1)), .val (.int ([c0, c1, c2, c3].getD fN 0)), .val (.int ([c0, c1, c2, c3].getD (fN + 1) 0)), .val (.int b26_s0), .unset, .unset] [(.int b26_s0)])) _
      exact k
    suffices w30 : ∀ (T30 : State) (L30 : List Loc) (X30 : Stand p l e room_1 (s.setVm T11.vm) m #[(.int p0), (.int p1), (.int p2), (.int p3)] below meth c T30 L30 5 26) (e30 : T30.heap = T12.heap) (N30 : Fr n0 L30) (b30_s0 : Int32) (h_b30_s0 : b30_s0 = (if b26_s0 = (0 : Int32) then (0 : Int32) else (if (1 : Int32) < (Int32.ofNat lN) then (if ([c0, c1, c2, c3].getD (fN + 1) 0) = (31 : Int32) then (0 : Int32) else (1 : Int32)) else (0 : Int32)))), own_EndsW p e below s n0 room_1.cells room_1.slots T30 (mkF m 156 #[.val (.int p0), .val (.int p1), .val (.int p2), .val (.int p3), .val (.ref b1), .val (.int (Int32.ofNat fN)), .val (.int (Int32.ofNat lN)), .val (.ref b10), .val (.int (1 : Int32)), .val (.int (own_ind lN ([c0, c1, c2, c3].getD fN 0) ([c0, c1, c2, c3].getD (fN + 1) 0) 1)), .val (.int ([c0, c1, c2, c3].getD fN 0)), .val (.int ([c0, c1, c2, c3].getD (fN + 1) 0)), .val (.int b26_s0), .unset, .unset] [(.int b30_s0)]) own_Q0 by
      by_cases hm135_27 : b26_s0 = (0 : Int32)
      · refine own_goW (T' := T26) (g' := (mkF m 155 #[.val (.int p0), .val (.int p1), .val (.int p2), .val (.int p3), .val (.ref b1), .val (.int (Int32.ofNat fN)), .val (.int (Int32.ofNat lN)), .val (.ref b10), .val (.int (1 : Int32)), .val (.int (own_ind lN ([c0, c1, c2, c3].getD fN 0) ([c0, c1, c2, c3].getD (fN + 1) 0) 1)), .val (.int ([c0, c1, c2, c3].getD fN 0)), .val (.int ([c0, c1, c2, c3].getD (fN + 1) 0)), .val (.int b26_s0), .unset, .unset] [])) (fun t k => ?_) ?_
        · refine XS.ifYes X26.here hx rfl (pc0 := 135) (pc' := 155) rfl (hb hby at_135) rfl ((if0 _ _).trans (teq hm135_27).1) (by decide) (by decide) ?_
          exact k
        refine own_goW (T' := T26) (g' := (mkF m 156 #[.val (.int p0), .val (.int p1), .val (.int p2), .val (.int p3), .val (.ref b1), .val (.int (Int32.ofNat fN)), .val (.int (Int32.ofNat lN)), .val (.ref b10), .val (.int (1 : Int32)), .val (.int (own_ind lN ([c0, c1, c2, c3].getD fN 0) ([c0, c1, c2, c3].getD (fN + 1) 0) 1)), .val (.int ([c0, c1, c2, c3].getD fN 0)), .val (.int ([c0, c1, c2, c3].getD (fN + 1) 0)), .val (.int b26_s0), .unset, .unset] [(.int (0 : Int32))])) (fun t k => ?_) ?_
        · show Steps p.tables e below (T26.setTop (mkF m 155 #[.val (.int p0), .val (.int p1), .val (.int p2), .val (.int p3), .val (.ref b1), .val (.int (Int32.ofNat fN)), .val (.int (Int32.ofNat lN)), .val (.ref b10), .val (.int (1 : Int32)), .val (.int (own_ind lN ([c0, c1, c2, c3].getD fN 0) ([c0, c1, c2, c3].getD (fN + 1) 0) 1)), .val (.int ([c0, c1, c2, c3].getD fN 0)), .val (.int ([c0, c1, c2, c3].getD (fN + 1) 0)), .val (.int b26_s0), .unset, .unset] [])) t
          refine XS.iconst X26.here hx rfl (hb hby at_155) ?_
          show Steps p.tables e below (T26.setTop (mkF m 156 #[.val (.int p0), .val (.int p1), .val (.int p2), .val (.int p3), .val (.ref b1), .val (.int (Int32.ofNat fN)), .val (.int (Int32.ofNat lN)), .val (.ref b10), .val (.int (1 : Int32)), .val (.int (own_ind lN ([c0, c1, c2, c3].getD fN 0) ([c0, c1, c2, c3].getD (fN + 1) 0) 1)), .val (.int ([c0, c1, c2, c3].getD fN 0)), .val (.int ([c0, c1, c2, c3].getD (fN + 1) 0)), .val (.int b26_s0), .unset, .unset] [(.int (0 : Int32))])) _
          exact k
        exact w30 _ _ X26 e26 N26 (0 : Int32) (by rw [if_pos hm135_27])
      · refine own_goW (T' := T26) (g' := (mkF m 138 #[.val (.int p0), .val (.int p1), .val (.int p2), .val (.int p3), .val (.ref b1), .val (.int (Int32.ofNat fN)), .val (.int (Int32.ofNat lN)), .val (.ref b10), .val (.int (1 : Int32)), .val (.int (own_ind lN ([c0, c1, c2, c3].getD fN 0) ([c0, c1, c2, c3].getD (fN + 1) 0) 1)), .val (.int ([c0, c1, c2, c3].getD fN 0)), .val (.int ([c0, c1, c2, c3].getD (fN + 1) 0)), .val (.int b26_s0), .unset, .unset] [])) (fun t k => ?_) ?_
        · refine XS.ifNo X26.here hx rfl (hb hby at_135) rfl ((if0 _ _).trans (feq hm135_27).1) ?_
          exact k
        refine own_goW (T' := T26) (g' := (mkF m 141 #[.val (.int p0), .val (.int p1), .val (.int p2), .val (.int p3), .val (.ref b1), .val (.int (Int32.ofNat fN)), .val (.int (Int32.ofNat lN)), .val (.ref b10), .val (.int (1 : Int32)), .val (.int (own_ind lN ([c0, c1, c2, c3].getD fN 0) ([c0, c1, c2, c3].getD (fN + 1) 0) 1)), .val (.int ([c0, c1, c2, c3].getD fN 0)), .val (.int ([c0, c1, c2, c3].getD (fN + 1) 0)), .val (.int b26_s0), .unset, .unset] [(.int (1 : Int32)), (.int (Int32.ofNat lN))])) (fun t k => ?_) ?_
        · show Steps p.tables e below (T26.setTop (mkF m 138 #[.val (.int p0), .val (.int p1), .val (.int p2), .val (.int p3), .val (.ref b1), .val (.int (Int32.ofNat fN)), .val (.int (Int32.ofNat lN)), .val (.ref b10), .val (.int (1 : Int32)), .val (.int (own_ind lN ([c0, c1, c2, c3].getD fN 0) ([c0, c1, c2, c3].getD (fN + 1) 0) 1)), .val (.int ([c0, c1, c2, c3].getD fN 0)), .val (.int ([c0, c1, c2, c3].getD (fN + 1) 0)), .val (.int b26_s0), .unset, .unset] [])) t
          refine XS.iload X26.here hx rfl (hb hby at_138) rfl ?_
          show Steps p.tables e below (T26.setTop (mkF m 140 #[.val (.int p0), .val (.int p1), .val (.int p2), .val (.int p3), .val (.ref b1), .val (.int (Int32.ofNat fN)), .val (.int (Int32.ofNat lN)), .val (.ref b10), .val (.int (1 : Int32)), .val (.int (own_ind lN ([c0, c1, c2, c3].getD fN 0) ([c0, c1, c2, c3].getD (fN + 1) 0) 1)), .val (.int ([c0, c1, c2, c3].getD fN 0)), .val (.int ([c0, c1, c2, c3].getD (fN + 1) 0)), .val (.int b26_s0), .unset, .unset] [(.int (Int32.ofNat lN))])) _
          refine XS.iconst X26.here hx rfl (hb hby at_140) ?_
          show Steps p.tables e below (T26.setTop (mkF m 141 #[.val (.int p0), .val (.int p1), .val (.int p2), .val (.int p3), .val (.ref b1), .val (.int (Int32.ofNat fN)), .val (.int (Int32.ofNat lN)), .val (.ref b10), .val (.int (1 : Int32)), .val (.int (own_ind lN ([c0, c1, c2, c3].getD fN 0) ([c0, c1, c2, c3].getD (fN + 1) 0) 1)), .val (.int ([c0, c1, c2, c3].getD fN 0)), .val (.int ([c0, c1, c2, c3].getD (fN + 1) 0)), .val (.int b26_s0), .unset, .unset] [(.int (1 : Int32)), (.int (Int32.ofNat lN))])) _
          exact k
        by_cases hm141_28 : (1 : Int32) < (Int32.ofNat lN)
        · refine own_goW (T' := T26) (g' := (mkF m 144 #[.val (.int p0), .val (.int p1), .val (.int p2), .val (.int p3), .val (.ref b1), .val (.int (Int32.ofNat fN)), .val (.int (Int32.ofNat lN)), .val (.ref b10), .val (.int (1 : Int32)), .val (.int (own_ind lN ([c0, c1, c2, c3].getD fN 0) ([c0, c1, c2, c3].getD (fN + 1) 0) 1)), .val (.int ([c0, c1, c2, c3].getD fN 0)), .val (.int ([c0, c1, c2, c3].getD (fN + 1) 0)), .val (.int b26_s0), .unset, .unset] [])) (fun t k => ?_) ?_
          · refine XS.icmpNo X26.here hx rfl (hb hby at_141) rfl (tlt hm141_28).2.2.2 ?_
            exact k
          refine own_goW (T' := T26) (g' := (mkF m 148 #[.val (.int p0), .val (.int p1), .val (.int p2), .val (.int p3), .val (.ref b1), .val (.int (Int32.ofNat fN)), .val (.int (Int32.ofNat lN)), .val (.ref b10), .val (.int (1 : Int32)), .val (.int (own_ind lN ([c0, c1, c2, c3].getD fN 0) ([c0, c1, c2, c3].getD (fN + 1) 0) 1)), .val (.int ([c0, c1, c2, c3].getD fN 0)), .val (.int ([c0, c1, c2, c3].getD (fN + 1) 0)), .val (.int b26_s0), .unset, .unset] [(.int (31 : Int32)), (.int ([c0, c1, c2, c3].getD (fN + 1) 0))])) (fun t k => ?_) ?_
          · show Steps p.tables e below (T26.setTop (mkF m 144 #[.val (.int p0), .val (.int p1), .val (.int p2), .val (.int p3), .val (.ref b1), .val (.int (Int32.ofNat fN)), .val (.int (Int32.ofNat lN)), .val (.ref b10), .val (.int (1 : Int32)), .val (.int (own_ind lN ([c0, c1, c2, c3].getD fN 0) ([c0, c1, c2, c3].getD (fN + 1) 0) 1)), .val (.int ([c0, c1, c2, c3].getD fN 0)), .val (.int ([c0, c1, c2, c3].getD (fN + 1) 0)), .val (.int b26_s0), .unset, .unset] [])) t
            refine XS.iload X26.here hx rfl (hb hby at_144) rfl ?_
            show Steps p.tables e below (T26.setTop (mkF m 146 #[.val (.int p0), .val (.int p1), .val (.int p2), .val (.int p3), .val (.ref b1), .val (.int (Int32.ofNat fN)), .val (.int (Int32.ofNat lN)), .val (.ref b10), .val (.int (1 : Int32)), .val (.int (own_ind lN ([c0, c1, c2, c3].getD fN 0) ([c0, c1, c2, c3].getD (fN + 1) 0) 1)), .val (.int ([c0, c1, c2, c3].getD fN 0)), .val (.int ([c0, c1, c2, c3].getD (fN + 1) 0)), .val (.int b26_s0), .unset, .unset] [(.int ([c0, c1, c2, c3].getD (fN + 1) 0))])) _
            refine XS.bipush X26.here hx rfl (hb hby at_146) ?_
            show Steps p.tables e below (T26.setTop (mkF m 148 #[.val (.int p0), .val (.int p1), .val (.int p2), .val (.int p3), .val (.ref b1), .val (.int (Int32.ofNat fN)), .val (.int (Int32.ofNat lN)), .val (.ref b10), .val (.int (1 : Int32)), .val (.int (own_ind lN ([c0, c1, c2, c3].getD fN 0) ([c0, c1, c2, c3].getD (fN + 1) 0) 1)), .val (.int ([c0, c1, c2, c3].getD fN 0)), .val (.int ([c0, c1, c2, c3].getD (fN + 1) 0)), .val (.int b26_s0), .unset, .unset] [(.int (31 : Int32)), (.int ([c0, c1, c2, c3].getD (fN + 1) 0))])) _
            exact k
          by_cases hm148_29 : ([c0, c1, c2, c3].getD (fN + 1) 0) = (31 : Int32)
          · refine own_goW (T' := T26) (g' := (mkF m 155 #[.val (.int p0), .val (.int p1), .val (.int p2), .val (.int p3), .val (.ref b1), .val (.int (Int32.ofNat fN)), .val (.int (Int32.ofNat lN)), .val (.ref b10), .val (.int (1 : Int32)), .val (.int (own_ind lN ([c0, c1, c2, c3].getD fN 0) ([c0, c1, c2, c3].getD (fN + 1) 0) 1)), .val (.int ([c0, c1, c2, c3].getD fN 0)), .val (.int ([c0, c1, c2, c3].getD (fN + 1) 0)), .val (.int b26_s0), .unset, .unset] [])) (fun t k => ?_) ?_
            · refine XS.icmpYes X26.here hx rfl (pc0 := 148) (pc' := 155) rfl (hb hby at_148) rfl (teq hm148_29).1 (by decide) (by decide) ?_
              exact k
            refine own_goW (T' := T26) (g' := (mkF m 156 #[.val (.int p0), .val (.int p1), .val (.int p2), .val (.int p3), .val (.ref b1), .val (.int (Int32.ofNat fN)), .val (.int (Int32.ofNat lN)), .val (.ref b10), .val (.int (1 : Int32)), .val (.int (own_ind lN ([c0, c1, c2, c3].getD fN 0) ([c0, c1, c2, c3].getD (fN + 1) 0) 1)), .val (.int ([c0, c1, c2, c3].getD fN 0)), .val (.int ([c0, c1, c2, c3].getD (fN + 1) 0)), .val (.int b26_s0), .unset, .unset] [(.int (0 : Int32))])) (fun t k => ?_) ?_
            · show Steps p.tables e below (T26.setTop (mkF m 155 #[.val (.int p0), .val (.int p1), .val (.int p2), .val (.int p3), .val (.ref b1), .val (.int (Int32.ofNat fN)), .val (.int (Int32.ofNat lN)), .val (.ref b10), .val (.int (1 : Int32)), .val (.int (own_ind lN ([c0, c1, c2, c3].getD fN 0) ([c0, c1, c2, c3].getD (fN + 1) 0) 1)), .val (.int ([c0, c1, c2, c3].getD fN 0)), .val (.int ([c0, c1, c2, c3].getD (fN + 1) 0)), .val (.int b26_s0), .unset, .unset] [])) t
              refine XS.iconst X26.here hx rfl (hb hby at_155) ?_
              show Steps p.tables e below (T26.setTop (mkF m 156 #[.val (.int p0), .val (.int p1), .val (.int p2), .val (.int p3), .val (.ref b1), .val (.int (Int32.ofNat fN)), .val (.int (Int32.ofNat lN)), .val (.ref b10), .val (.int (1 : Int32)), .val (.int (own_ind lN ([c0, c1, c2, c3].getD fN 0) ([c0, c1, c2, c3].getD (fN + 1) 0) 1)), .val (.int ([c0, c1, c2, c3].getD fN 0)), .val (.int ([c0, c1, c2, c3].getD (fN + 1) 0)), .val (.int b26_s0), .unset, .unset] [(.int (0 : Int32))])) _
              exact k
            exact w30 _ _ X26 e26 N26 (0 : Int32) (by rw [if_neg hm135_27, if_pos hm141_28, if_pos hm148_29])
          · refine own_goW (T' := T26) (g' := (mkF m 151 #[.val (.int p0), .val (.int p1), .val (.int p2), .val (.int p3), .val (.ref b1), .val (.int (Int32.ofNat fN)), .val (.int (Int32.ofNat lN)), .val (.ref b10), .val (.int (1 : Int32)), .val (.int (own_ind lN ([c0, c1, c2, c3].getD fN 0) ([c0, c1, c2, c3].getD (fN + 1) 0) 1)), .val (.int ([c0, c1, c2, c3].getD fN 0)), .val (.int ([c0, c1, c2, c3].getD (fN + 1) 0)), .val (.int b26_s0), .unset, .unset] [])) (fun t k => ?_) ?_
            · refine XS.icmpNo X26.here hx rfl (hb hby at_148) rfl (feq hm148_29).1 ?_
              exact k
            refine own_goW (T' := T26) (g' := (mkF m 156 #[.val (.int p0), .val (.int p1), .val (.int p2), .val (.int p3), .val (.ref b1), .val (.int (Int32.ofNat fN)), .val (.int (Int32.ofNat lN)), .val (.ref b10), .val (.int (1 : Int32)), .val (.int (own_ind lN ([c0, c1, c2, c3].getD fN 0) ([c0, c1, c2, c3].getD (fN + 1) 0) 1)), .val (.int ([c0, c1, c2, c3].getD fN 0)), .val (.int ([c0, c1, c2, c3].getD (fN + 1) 0)), .val (.int b26_s0), .unset, .unset] [(.int (1 : Int32))])) (fun t k => ?_) ?_
            · show Steps p.tables e below (T26.setTop (mkF m 151 #[.val (.int p0), .val (.int p1), .val (.int p2), .val (.int p3), .val (.ref b1), .val (.int (Int32.ofNat fN)), .val (.int (Int32.ofNat lN)), .val (.ref b10), .val (.int (1 : Int32)), .val (.int (own_ind lN ([c0, c1, c2, c3].getD fN 0) ([c0, c1, c2, c3].getD (fN + 1) 0) 1)), .val (.int ([c0, c1, c2, c3].getD fN 0)), .val (.int ([c0, c1, c2, c3].getD (fN + 1) 0)), .val (.int b26_s0), .unset, .unset] [])) t
              refine XS.iconst X26.here hx rfl (hb hby at_151) ?_
              show Steps p.tables e below (T26.setTop (mkF m 152 #[.val (.int p0), .val (.int p1), .val (.int p2), .val (.int p3), .val (.ref b1), .val (.int (Int32.ofNat fN)), .val (.int (Int32.ofNat lN)), .val (.ref b10), .val (.int (1 : Int32)), .val (.int (own_ind lN ([c0, c1, c2, c3].getD fN 0) ([c0, c1, c2, c3].getD (fN + 1) 0) 1)), .val (.int ([c0, c1, c2, c3].getD fN 0)), .val (.int ([c0, c1, c2, c3].getD (fN + 1) 0)), .val (.int b26_s0), .unset, .unset] [(.int (1 : Int32))])) _
              refine XS.goto X26.here hx rfl (pc0 := 152) (pc' := 156) rfl (hb hby at_152) (by decide) (by decide) ?_
              show Steps p.tables e below (T26.setTop (mkF m 156 #[.val (.int p0), .val (.int p1), .val (.int p2), .val (.int p3), .val (.ref b1), .val (.int (Int32.ofNat fN)), .val (.int (Int32.ofNat lN)), .val (.ref b10), .val (.int (1 : Int32)), .val (.int (own_ind lN ([c0, c1, c2, c3].getD fN 0) ([c0, c1, c2, c3].getD (fN + 1) 0) 1)), .val (.int ([c0, c1, c2, c3].getD fN 0)), .val (.int ([c0, c1, c2, c3].getD (fN + 1) 0)), .val (.int b26_s0), .unset, .unset] [(.int (1 : Int32))])) _
              exact k
            exact w30 _ _ X26 e26 N26 (1 : Int32) (by rw [if_neg hm135_27, if_pos hm141_28, if_neg hm148_29])
        · refine own_goW (T' := T26) (g' := (mkF m 155 #[.val (.int p0), .val (.int p1), .val (.int p2), .val (.int p3), .val (.ref b1), .val (.int (Int32.ofNat fN)), .val (.int (Int32.ofNat lN)), .val (.ref b10), .val (.int (1 : Int32)), .val (.int (own_ind lN ([c0, c1, c2, c3].getD fN 0) ([c0, c1, c2, c3].getD (fN + 1) 0) 1)), .val (.int ([c0, c1, c2, c3].getD fN 0)), .val (.int ([c0, c1, c2, c3].getD (fN + 1) 0)), .val (.int b26_s0), .unset, .unset] [])) (fun t k => ?_) ?_
          · refine XS.icmpYes X26.here hx rfl (pc0 := 141) (pc' := 155) rfl (hb hby at_141) rfl (flt hm141_28).2.2.2 (by decide) (by decide) ?_
            exact k
          refine own_goW (T' := T26) (g' := (mkF m 156 #[.val (.int p0), .val (.int p1), .val (.int p2), .val (.int p3), .val (.ref b1), .val (.int (Int32.ofNat fN)), .val (.int (Int32.ofNat lN)), .val (.ref b10), .val (.int (1 : Int32)), .val (.int (own_ind lN ([c0, c1, c2, c3].getD fN 0) ([c0, c1, c2, c3].getD (fN + 1) 0) 1)), .val (.int ([c0, c1, c2, c3].getD fN 0)), .val (.int ([c0, c1, c2, c3].getD (fN + 1) 0)), .val (.int b26_s0), .unset, .unset] [(.int (0 : Int32))])) (fun t k => ?_) ?_
          · show Steps p.tables e below (T26.setTop (mkF m 155 #[.val (.int p0), .val (.int p1), .val (.int p2), .val (.int p3), .val (.ref b1), .val (.int (Int32.ofNat fN)), .val (.int (Int32.ofNat lN)), .val (.ref b10), .val (.int (1 : Int32)), .val (.int (own_ind lN ([c0, c1, c2, c3].getD fN 0) ([c0, c1, c2, c3].getD (fN + 1) 0) 1)), .val (.int ([c0, c1, c2, c3].getD fN 0)), .val (.int ([c0, c1, c2, c3].getD (fN + 1) 0)), .val (.int b26_s0), .unset, .unset] [])) t
            refine XS.iconst X26.here hx rfl (hb hby at_155) ?_
            show Steps p.tables e below (T26.setTop (mkF m 156 #[.val (.int p0), .val (.int p1), .val (.int p2), .val (.int p3), .val (.ref b1), .val (.int (Int32.ofNat fN)), .val (.int (Int32.ofNat lN)), .val (.ref b10), .val (.int (1 : Int32)), .val (.int (own_ind lN ([c0, c1, c2, c3].getD fN 0) ([c0, c1, c2, c3].getD (fN + 1) 0) 1)), .val (.int ([c0, c1, c2, c3].getD fN 0)), .val (.int ([c0, c1, c2, c3].getD (fN + 1) 0)), .val (.int b26_s0), .unset, .unset] [(.int (0 : Int32))])) _
            exact k
          exact w30 _ _ X26 e26 N26 (0 : Int32) (by rw [if_neg hm135_27, if_neg hm141_28])
    intro T30 L30 X30 e30 N30 b30_s0 h_b30_s0
    refine own_goW (T' := T30) (g' := (mkF m 185 #[.val (.int p0), .val (.int p1), .val (.int p2), .val (.int p3), .val (.ref b1), .val (.int (Int32.ofNat fN)), .val (.int (Int32.ofNat lN)), .val (.ref b10), .val (.int (1 : Int32)), .val (.int (own_ind lN ([c0, c1, c2, c3].getD fN 0) ([c0, c1, c2, c3].getD (fN + 1) 0) 1)), .val (.int ([c0, c1, c2, c3].getD fN 0)), .val (.int ([c0, c1, c2, c3].getD (fN + 1) 0)), .val (.int b26_s0), .val (.int b30_s0), .unset] [(.int b30_s0)])) (fun t k => ?_) ?_
    · show Steps p.tables e below (T30.setTop (mkF m 156 #[.val (.int p0), .val (.int p1), .val (.int p2), .val (.int p3), .val (.ref b1), .val (.int (Int32.ofNat fN)), .val (.int (Int32.ofNat lN)), .val (.ref b10), .val (.int (1 : Int32)), .val (.int (own_ind lN ([c0, c1, c2, c3].getD fN 0) ([c0, c1, c2, c3].getD (fN + 1) 0) 1)), .val (.int ([c0, c1, c2, c3].getD fN 0)), .val (.int ([c0, c1, c2, c3].getD (fN + 1) 0)), .val (.int b26_s0), .unset, .unset] [(.int b30_s0)])) t
      refine XS.istore X30.here hx rfl (hb hby at_156) rfl (l' := #[.val (.int p0), .val (.int p1), .val (.int p2), .val (.int p3), .val (.ref b1), .val (.int (Int32.ofNat fN)), .val (.int (Int32.ofNat lN)), .val (.ref b10), .val (.int (1 : Int32)), .val (.int (own_ind lN ([c0, c1, c2, c3].getD fN 0) ([c0, c1, c2, c3].getD (fN + 1) 0) 1)), .val (.int ([c0, c1, c2, c3].getD fN 0)), .val (.int ([c0, c1, c2, c3].getD (fN + 1) 0)), .val (.int b26_s0), .val (.int b30_s0), .unset]) rfl ?_
      show Steps p.tables e below (T30.setTop (mkF m 158 #[.val (.int p0), .val (.int p1), .val (.int p2), .val (.int p3), .val (.ref b1), .val (.int (Int32.ofNat fN)), .val (.int (Int32.ofNat lN)), .val (.ref b10), .val (.int (1 : Int32)), .val (.int (own_ind lN ([c0, c1, c2, c3].getD fN 0) ([c0, c1, c2, c3].getD (fN + 1) 0) 1)), .val (.int ([c0, c1, c2, c3].getD fN 0)), .val (.int ([c0, c1, c2, c3].getD (fN + 1) 0)), .val (.int b26_s0), .val (.int b30_s0), .unset] [])) _
      refine XS.iload X30.here hx rfl (hb hby at_158) rfl ?_
      show Steps p.tables e below (T30.setTop (mkF m 160 #[.val (.int p0), .val (.int p1), .val (.int p2), .val (.int p3), .val (.ref b1), .val (.int (Int32.ofNat fN)), .val (.int (Int32.ofNat lN)), .val (.ref b10), .val (.int (1 : Int32)), .val (.int (own_ind lN ([c0, c1, c2, c3].getD fN 0) ([c0, c1, c2, c3].getD (fN + 1) 0) 1)), .val (.int ([c0, c1, c2, c3].getD fN 0)), .val (.int ([c0, c1, c2, c3].getD (fN + 1) 0)), .val (.int b26_s0), .val (.int b30_s0), .unset] [(.int (1 : Int32))])) _
      refine XS.ifYes X30.here hx rfl (pc0 := 160) (pc' := 183) rfl (hb hby at_160) rfl ((if0 _ _).trans (feq (by decide)).2) (by decide) (by decide) ?_
      show Steps p.tables e below (T30.setTop (mkF m 183 #[.val (.int p0), .val (.int p1), .val (.int p2), .val (.int p3), .val (.ref b1), .val (.int (Int32.ofNat fN)), .val (.int (Int32.ofNat lN)), .val (.ref b10), .val (.int (1 : Int32)), .val (.int (own_ind lN ([c0, c1, c2, c3].getD fN 0) ([c0, c1, c2, c3].getD (fN + 1) 0) 1)), .val (.int ([c0, c1, c2, c3].getD fN 0)), .val (.int ([c0, c1, c2, c3].getD (fN + 1) 0)), .val (.int b26_s0), .val (.int b30_s0), .unset] [])) _
      refine XS.iload X30.here hx rfl (hb hby at_183) rfl ?_
      show Steps p.tables e below (T30.setTop (mkF m 185 #[.val (.int p0), .val (.int p1), .val (.int p2), .val (.int p3), .val (.ref b1), .val (.int (Int32.ofNat fN)), .val (.int (Int32.ofNat lN)), .val (.ref b10), .val (.int (1 : Int32)), .val (.int (own_ind lN ([c0, c1, c2, c3].getD fN 0) ([c0, c1, c2, c3].getD (fN + 1) 0) 1)), .val (.int ([c0, c1, c2, c3].getD fN 0)), .val (.int ([c0, c1, c2, c3].getD (fN + 1) 0)), .val (.int b26_s0), .val (.int b30_s0), .unset] [(.int b30_s0)])) _
      exact k
    suffices w32 : ∀ (T32 : State) (L32 : List Loc) (X32 : Stand p l e room_1 (s.setVm T11.vm) m #[(.int p0), (.int p1), (.int p2), (.int p3)] below meth c T32 L32 5 26) (e32 : T32.heap = T12.heap) (N32 : Fr n0 L32) (b32_s0 : Int32) (h_b32_s0 : b32_s0 = (if b30_s0 = (0 : Int32) then (-1 : Int32) else (([c0, c1, c2, c3].getD (fN + 1) 0) &&& (255 : Int32)))), own_EndsW p e below s n0 room_1.cells room_1.slots T32 (mkF m 198 #[.val (.int p0), .val (.int p1), .val (.int p2), .val (.int p3), .val (.ref b1), .val (.int (Int32.ofNat fN)), .val (.int (Int32.ofNat lN)), .val (.ref b10), .val (.int (1 : Int32)), .val (.int (own_ind lN ([c0, c1, c2, c3].getD fN 0) ([c0, c1, c2, c3].getD (fN + 1) 0) 1)), .val (.int ([c0, c1, c2, c3].getD fN 0)), .val (.int ([c0, c1, c2, c3].getD (fN + 1) 0)), .val (.int b26_s0), .val (.int b30_s0), .unset] [(.int b32_s0)]) own_Q0 by
      by_cases hm185_31 : b30_s0 = (0 : Int32)
      · refine own_goW (T' := T30) (g' := (mkF m 197 #[.val (.int p0), .val (.int p1), .val (.int p2), .val (.int p3), .val (.ref b1), .val (.int (Int32.ofNat fN)), .val (.int (Int32.ofNat lN)), .val (.ref b10), .val (.int (1 : Int32)), .val (.int (own_ind lN ([c0, c1, c2, c3].getD fN 0) ([c0, c1, c2, c3].getD (fN + 1) 0) 1)), .val (.int ([c0, c1, c2, c3].getD fN 0)), .val (.int ([c0, c1, c2, c3].getD (fN + 1) 0)), .val (.int b26_s0), .val (.int b30_s0), .unset] [])) (fun t k => ?_) ?_
        · refine XS.ifYes X30.here hx rfl (pc0 := 185) (pc' := 197) rfl (hb hby at_185) rfl ((if0 _ _).trans (teq hm185_31).1) (by decide) (by decide) ?_
          exact k
        refine own_goW (T' := T30) (g' := (mkF m 198 #[.val (.int p0), .val (.int p1), .val (.int p2), .val (.int p3), .val (.ref b1), .val (.int (Int32.ofNat fN)), .val (.int (Int32.ofNat lN)), .val (.ref b10), .val (.int (1 : Int32)), .val (.int (own_ind lN ([c0, c1, c2, c3].getD fN 0) ([c0, c1, c2, c3].getD (fN + 1) 0) 1)), .val (.int ([c0, c1, c2, c3].getD fN 0)), .val (.int ([c0, c1, c2, c3].getD (fN + 1) 0)), .val (.int b26_s0), .val (.int b30_s0), .unset] [(.int (-1 : Int32))])) (fun t k => ?_) ?_
        · show Steps p.tables e below (T30.setTop (mkF m 197 #[.val (.int p0), .val (.int p1), .val (.int p2), .val (.int p3), .val (.ref b1), .val (.int (Int32.ofNat fN)), .val (.int (Int32.ofNat lN)), .val (.ref b10), .val (.int (1 : Int32)), .val (.int (own_ind lN ([c0, c1, c2, c3].getD fN 0) ([c0, c1, c2, c3].getD (fN + 1) 0) 1)), .val (.int ([c0, c1, c2, c3].getD fN 0)), .val (.int ([c0, c1, c2, c3].getD (fN + 1) 0)), .val (.int b26_s0), .val (.int b30_s0), .unset] [])) t
          refine XS.iconst X30.here hx rfl (hb hby at_197) ?_
          show Steps p.tables e below (T30.setTop (mkF m 198 #[.val (.int p0), .val (.int p1), .val (.int p2), .val (.int p3), .val (.ref b1), .val (.int (Int32.ofNat fN)), .val (.int (Int32.ofNat lN)), .val (.ref b10), .val (.int (1 : Int32)), .val (.int (own_ind lN ([c0, c1, c2, c3].getD fN 0) ([c0, c1, c2, c3].getD (fN + 1) 0) 1)), .val (.int ([c0, c1, c2, c3].getD fN 0)), .val (.int ([c0, c1, c2, c3].getD (fN + 1) 0)), .val (.int b26_s0), .val (.int b30_s0), .unset] [(.int (-1 : Int32))])) _
          exact k
        exact w32 _ _ X30 e30 N30 (-1 : Int32) (by rw [if_pos hm185_31])
      · refine own_goW (T' := T30) (g' := (mkF m 188 #[.val (.int p0), .val (.int p1), .val (.int p2), .val (.int p3), .val (.ref b1), .val (.int (Int32.ofNat fN)), .val (.int (Int32.ofNat lN)), .val (.ref b10), .val (.int (1 : Int32)), .val (.int (own_ind lN ([c0, c1, c2, c3].getD fN 0) ([c0, c1, c2, c3].getD (fN + 1) 0) 1)), .val (.int ([c0, c1, c2, c3].getD fN 0)), .val (.int ([c0, c1, c2, c3].getD (fN + 1) 0)), .val (.int b26_s0), .val (.int b30_s0), .unset] [])) (fun t k => ?_) ?_
        · refine XS.ifNo X30.here hx rfl (hb hby at_185) rfl ((if0 _ _).trans (feq hm185_31).1) ?_
          exact k
        refine own_goW (T' := T30) (g' := (mkF m 198 #[.val (.int p0), .val (.int p1), .val (.int p2), .val (.int p3), .val (.ref b1), .val (.int (Int32.ofNat fN)), .val (.int (Int32.ofNat lN)), .val (.ref b10), .val (.int (1 : Int32)), .val (.int (own_ind lN ([c0, c1, c2, c3].getD fN 0) ([c0, c1, c2, c3].getD (fN + 1) 0) 1)), .val (.int ([c0, c1, c2, c3].getD fN 0)), .val (.int ([c0, c1, c2, c3].getD (fN + 1) 0)), .val (.int b26_s0), .val (.int b30_s0), .unset] [(.int (([c0, c1, c2, c3].getD (fN + 1) 0) &&& (255 : Int32)))])) (fun t k => ?_) ?_
        · show Steps p.tables e below (T30.setTop (mkF m 188 #[.val (.int p0), .val (.int p1), .val (.int p2), .val (.int p3), .val (.ref b1), .val (.int (Int32.ofNat fN)), .val (.int (Int32.ofNat lN)), .val (.ref b10), .val (.int (1 : Int32)), .val (.int (own_ind lN ([c0, c1, c2, c3].getD fN 0) ([c0, c1, c2, c3].getD (fN + 1) 0) 1)), .val (.int ([c0, c1, c2, c3].getD fN 0)), .val (.int ([c0, c1, c2, c3].getD (fN + 1) 0)), .val (.int b26_s0), .val (.int b30_s0), .unset] [])) t
          refine XS.iload X30.here hx rfl (hb hby at_188) rfl ?_
          show Steps p.tables e below (T30.setTop (mkF m 190 #[.val (.int p0), .val (.int p1), .val (.int p2), .val (.int p3), .val (.ref b1), .val (.int (Int32.ofNat fN)), .val (.int (Int32.ofNat lN)), .val (.ref b10), .val (.int (1 : Int32)), .val (.int (own_ind lN ([c0, c1, c2, c3].getD fN 0) ([c0, c1, c2, c3].getD (fN + 1) 0) 1)), .val (.int ([c0, c1, c2, c3].getD fN 0)), .val (.int ([c0, c1, c2, c3].getD (fN + 1) 0)), .val (.int b26_s0), .val (.int b30_s0), .unset] [(.int ([c0, c1, c2, c3].getD (fN + 1) 0))])) _
          refine XS.sipush X30.here hx rfl (hb hby at_190) ?_
          show Steps p.tables e below (T30.setTop (mkF m 193 #[.val (.int p0), .val (.int p1), .val (.int p2), .val (.int p3), .val (.ref b1), .val (.int (Int32.ofNat fN)), .val (.int (Int32.ofNat lN)), .val (.ref b10), .val (.int (1 : Int32)), .val (.int (own_ind lN ([c0, c1, c2, c3].getD fN 0) ([c0, c1, c2, c3].getD (fN + 1) 0) 1)), .val (.int ([c0, c1, c2, c3].getD fN 0)), .val (.int ([c0, c1, c2, c3].getD (fN + 1) 0)), .val (.int b26_s0), .val (.int b30_s0), .unset] [(.int (255 : Int32)), (.int ([c0, c1, c2, c3].getD (fN + 1) 0))])) _
          refine XS.iand X30.here hx rfl (hb hby at_193) rfl ?_
          show Steps p.tables e below (T30.setTop (mkF m 194 #[.val (.int p0), .val (.int p1), .val (.int p2), .val (.int p3), .val (.ref b1), .val (.int (Int32.ofNat fN)), .val (.int (Int32.ofNat lN)), .val (.ref b10), .val (.int (1 : Int32)), .val (.int (own_ind lN ([c0, c1, c2, c3].getD fN 0) ([c0, c1, c2, c3].getD (fN + 1) 0) 1)), .val (.int ([c0, c1, c2, c3].getD fN 0)), .val (.int ([c0, c1, c2, c3].getD (fN + 1) 0)), .val (.int b26_s0), .val (.int b30_s0), .unset] [(.int (([c0, c1, c2, c3].getD (fN + 1) 0) &&& (255 : Int32)))])) _
          refine XS.goto X30.here hx rfl (pc0 := 194) (pc' := 198) rfl (hb hby at_194) (by decide) (by decide) ?_
          show Steps p.tables e below (T30.setTop (mkF m 198 #[.val (.int p0), .val (.int p1), .val (.int p2), .val (.int p3), .val (.ref b1), .val (.int (Int32.ofNat fN)), .val (.int (Int32.ofNat lN)), .val (.ref b10), .val (.int (1 : Int32)), .val (.int (own_ind lN ([c0, c1, c2, c3].getD fN 0) ([c0, c1, c2, c3].getD (fN + 1) 0) 1)), .val (.int ([c0, c1, c2, c3].getD fN 0)), .val (.int ([c0, c1, c2, c3].getD (fN + 1) 0)), .val (.int b26_s0), .val (.int b30_s0), .unset] [(.int (([c0, c1, c2, c3].getD (fN + 1) 0) &&& (255 : Int32)))])) _
          exact k
        exact w32 _ _ X30 e30 N30 (([c0, c1, c2, c3].getD (fN + 1) 0) &&& (255 : Int32)) (by rw [if_neg hm185_31])
    intro T32 L32 X32 e32 N32 b32_s0 h_b32_s0
    refine own_goW (T' := T32) (g' := (mkF m 204 #[.val (.int p0), .val (.int p1), .val (.int p2), .val (.int p3), .val (.ref b1), .val (.int (Int32.ofNat fN)), .val (.int (Int32.ofNat lN)), .val (.ref b10), .val (.int (1 : Int32)), .val (.int (own_ind lN ([c0, c1, c2, c3].getD fN 0) ([c0, c1, c2, c3].getD (fN + 1) 0) 1)), .val (.int ([c0, c1, c2, c3].getD fN 0)), .val (.int ([c0, c1, c2, c3].getD (fN + 1) 0)), .val (.int b26_s0), .val (.int b30_s0), .val (.int b32_s0)] [(.int b32_s0), (.int (own_ind lN ([c0, c1, c2, c3].getD fN 0) ([c0, c1, c2, c3].getD (fN + 1) 0) 1))])) (fun t k => ?_) ?_
    · show Steps p.tables e below (T32.setTop (mkF m 198 #[.val (.int p0), .val (.int p1), .val (.int p2), .val (.int p3), .val (.ref b1), .val (.int (Int32.ofNat fN)), .val (.int (Int32.ofNat lN)), .val (.ref b10), .val (.int (1 : Int32)), .val (.int (own_ind lN ([c0, c1, c2, c3].getD fN 0) ([c0, c1, c2, c3].getD (fN + 1) 0) 1)), .val (.int ([c0, c1, c2, c3].getD fN 0)), .val (.int ([c0, c1, c2, c3].getD (fN + 1) 0)), .val (.int b26_s0), .val (.int b30_s0), .unset] [(.int b32_s0)])) t
      refine XS.istore X32.here hx rfl (hb hby at_198) rfl (l' := #[.val (.int p0), .val (.int p1), .val (.int p2), .val (.int p3), .val (.ref b1), .val (.int (Int32.ofNat fN)), .val (.int (Int32.ofNat lN)), .val (.ref b10), .val (.int (1 : Int32)), .val (.int (own_ind lN ([c0, c1, c2, c3].getD fN 0) ([c0, c1, c2, c3].getD (fN + 1) 0) 1)), .val (.int ([c0, c1, c2, c3].getD fN 0)), .val (.int ([c0, c1, c2, c3].getD (fN + 1) 0)), .val (.int b26_s0), .val (.int b30_s0), .val (.int b32_s0)]) rfl ?_
      show Steps p.tables e below (T32.setTop (mkF m 200 #[.val (.int p0), .val (.int p1), .val (.int p2), .val (.int p3), .val (.ref b1), .val (.int (Int32.ofNat fN)), .val (.int (Int32.ofNat lN)), .val (.ref b10), .val (.int (1 : Int32)), .val (.int (own_ind lN ([c0, c1, c2, c3].getD fN 0) ([c0, c1, c2, c3].getD (fN + 1) 0) 1)), .val (.int ([c0, c1, c2, c3].getD fN 0)), .val (.int ([c0, c1, c2, c3].getD (fN + 1) 0)), .val (.int b26_s0), .val (.int b30_s0), .val (.int b32_s0)] [])) _
      refine XS.iload X32.here hx rfl (hb hby at_200) rfl ?_
      show Steps p.tables e below (T32.setTop (mkF m 202 #[.val (.int p0), .val (.int p1), .val (.int p2), .val (.int p3), .val (.ref b1), .val (.int (Int32.ofNat fN)), .val (.int (Int32.ofNat lN)), .val (.ref b10), .val (.int (1 : Int32)), .val (.int (own_ind lN ([c0, c1, c2, c3].getD fN 0) ([c0, c1, c2, c3].getD (fN + 1) 0) 1)), .val (.int ([c0, c1, c2, c3].getD fN 0)), .val (.int ([c0, c1, c2, c3].getD (fN + 1) 0)), .val (.int b26_s0), .val (.int b30_s0), .val (.int b32_s0)] [(.int (own_ind lN ([c0, c1, c2, c3].getD fN 0) ([c0, c1, c2, c3].getD (fN + 1) 0) 1))])) _
      refine XS.iload X32.here hx rfl (hb hby at_202) rfl ?_
      show Steps p.tables e below (T32.setTop (mkF m 204 #[.val (.int p0), .val (.int p1), .val (.int p2), .val (.int p3), .val (.ref b1), .val (.int (Int32.ofNat fN)), .val (.int (Int32.ofNat lN)), .val (.ref b10), .val (.int (1 : Int32)), .val (.int (own_ind lN ([c0, c1, c2, c3].getD fN 0) ([c0, c1, c2, c3].getD (fN + 1) 0) 1)), .val (.int ([c0, c1, c2, c3].getD fN 0)), .val (.int ([c0, c1, c2, c3].getD (fN + 1) 0)), .val (.int b26_s0), .val (.int b30_s0), .val (.int b32_s0)] [(.int b32_s0), (.int (own_ind lN ([c0, c1, c2, c3].getD fN 0) ([c0, c1, c2, c3].getD (fN + 1) 0) 1))])) _
      exact k
    refine own_goW (T' := T32) (g' := (mkF m 212 #[.val (.int p0), .val (.int p1), .val (.int p2), .val (.int p3), .val (.ref b1), .val (.int (Int32.ofNat fN)), .val (.int (Int32.ofNat lN)), .val (.ref b10), .val (.int (1 : Int32)), .val (.int (own_ind lN ([c0, c1, c2, c3].getD fN 0) ([c0, c1, c2, c3].getD (fN + 1) 0) 1)), .val (.int ([c0, c1, c2, c3].getD fN 0)), .val (.int ([c0, c1, c2, c3].getD (fN + 1) 0)), .val (.int b26_s0), .val (.int b30_s0), .val (.int b32_s0)] [(.int (1 : Int32))])) (fun t k => ?_) ?_
    · show Steps p.tables e below (T32.setTop (mkF m 204 #[.val (.int p0), .val (.int p1), .val (.int p2), .val (.int p3), .val (.ref b1), .val (.int (Int32.ofNat fN)), .val (.int (Int32.ofNat lN)), .val (.ref b10), .val (.int (1 : Int32)), .val (.int (own_ind lN ([c0, c1, c2, c3].getD fN 0) ([c0, c1, c2, c3].getD (fN + 1) 0) 1)), .val (.int ([c0, c1, c2, c3].getD fN 0)), .val (.int ([c0, c1, c2, c3].getD (fN + 1) 0)), .val (.int b26_s0), .val (.int b30_s0), .val (.int b32_s0)] [(.int b32_s0), (.int (own_ind lN ([c0, c1, c2, c3].getD fN 0) ([c0, c1, c2, c3].getD (fN + 1) 0) 1))])) t
      refine XS.icmpNo X32.here hx rfl (hb hby at_204) rfl (teq (own_law1 hl h_b26_s0 h_b30_s0 h_b32_s0)).2 ?_
      show Steps p.tables e below (T32.setTop (mkF m 207 #[.val (.int p0), .val (.int p1), .val (.int p2), .val (.int p3), .val (.ref b1), .val (.int (Int32.ofNat fN)), .val (.int (Int32.ofNat lN)), .val (.ref b10), .val (.int (1 : Int32)), .val (.int (own_ind lN ([c0, c1, c2, c3].getD fN 0) ([c0, c1, c2, c3].getD (fN + 1) 0) 1)), .val (.int ([c0, c1, c2, c3].getD fN 0)), .val (.int ([c0, c1, c2, c3].getD (fN + 1) 0)), .val (.int b26_s0), .val (.int b30_s0), .val (.int b32_s0)] [])) _
      refine XS.iconst X32.here hx rfl (hb hby at_207) ?_
      show Steps p.tables e below (T32.setTop (mkF m 208 #[.val (.int p0), .val (.int p1), .val (.int p2), .val (.int p3), .val (.ref b1), .val (.int (Int32.ofNat fN)), .val (.int (Int32.ofNat lN)), .val (.ref b10), .val (.int (1 : Int32)), .val (.int (own_ind lN ([c0, c1, c2, c3].getD fN 0) ([c0, c1, c2, c3].getD (fN + 1) 0) 1)), .val (.int ([c0, c1, c2, c3].getD fN 0)), .val (.int ([c0, c1, c2, c3].getD (fN + 1) 0)), .val (.int b26_s0), .val (.int b30_s0), .val (.int b32_s0)] [(.int (1 : Int32))])) _
      refine XS.goto X32.here hx rfl (pc0 := 208) (pc' := 212) rfl (hb hby at_208) (by decide) (by decide) ?_
      show Steps p.tables e below (T32.setTop (mkF m 212 #[.val (.int p0), .val (.int p1), .val (.int p2), .val (.int p3), .val (.ref b1), .val (.int (Int32.ofNat fN)), .val (.int (Int32.ofNat lN)), .val (.ref b10), .val (.int (1 : Int32)), .val (.int (own_ind lN ([c0, c1, c2, c3].getD fN 0) ([c0, c1, c2, c3].getD (fN + 1) 0) 1)), .val (.int ([c0, c1, c2, c3].getD fN 0)), .val (.int ([c0, c1, c2, c3].getD (fN + 1) 0)), .val (.int b26_s0), .val (.int b30_s0), .val (.int b32_s0)] [(.int (1 : Int32))])) _
      exact k
    exact own_retNW X32 hx hlk hS (by rw [e32]; exact sy_12) hret (by simp) (hb hby at_212) (by decide) (by decide) N32 ⟨rfl, trivial⟩
set_option maxRecDepth 65536 in
set_option maxHeartbeats 40000000 in
theorem comes_1 {Post : Tables → Env → Array Value → State → Outcome → State → Prop} (hpost : ∀ tb e args s v u, (limb_1_1.after args s (.returned v) u = true ∧ limb_1_2.after args s (.returned v) u = true ∧ True) → ReturnedEndW s (.returned v) u (Jvm.fieldLocs frame_1_writes args s ++ Jvm.arrayLocs frame_1_arrays args s ++ Jvm.staticLocs frame_1_statics s) 16 1152 → Post tb e args s (.returned v) u) :
    ArmFor flags0 classFile x code maxLocals ret World_1 tables_1 room_1 Calls_1 rest_1 Pre_1 Post := by
  intro l hfl _ _ p e ha hc hk s m args below hf hA hF happ hP
  obtain ⟨hcalls, hrest, hpre⟩ := hP
  obtain ⟨-, -, -, hnamed, -, -, -, hat⟩ := (Spec.applies_iff hf).mp happ
  obtain ⟨hg, hn⟩ := and_e (Cond.before_iff.mp (show (Jvm.Cond.and given_1 narrow_1).before args s = true from hpre))
  obtain ⟨h1, g0⟩ := and_e hg
  obtain ⟨k0, g1⟩ := and_e g0
  obtain ⟨k1, g2⟩ := and_e g1
  obtain ⟨k2, g3⟩ := and_e g2
  have k3 := g3
  obtain ⟨w0, w1, w2, w3, rfl⟩ : ∃ w0 w1 w2 w3 : Value, args = #[w0, w1, w2, w3] := by
    have hs : args.size = 4 := by simpa [Cond.value, given_1] using h1
    obtain ⟨L⟩ := args
    match L, hs with
    | [w0, w1, w2, w3], _ => exact ⟨w0, w1, w2, w3, rfl⟩
  have hw := fun d (hd : d ∈ tables_1) => atoms_spec (ws := Jvm.Cond.code x code maxLocals ret :: tables_1) hat d (List.mem_cons_of_mem _ hd)
  obtain ⟨i0, e0⟩ := is_v k0
  obtain rfl : w0 = (.int i0) := Option.some.inj e0
  obtain ⟨i1, e1⟩ := is_v k1
  obtain rfl : w1 = (.int i1) := Option.some.inj e1
  obtain ⟨i2, e2⟩ := is_v k2
  obtain rfl : w2 = (.int i2) := Option.some.inj e2
  obtain ⟨i3, e3⟩ := is_v k3
  obtain rfl : w3 = (.int i3) := Option.some.inj e3
  obtain ⟨n, o, h1, h2, h3, v, L, rfl, ⟨N, hv⟩, hq⟩ := rm0 l s _ hw i0 i1 i2 i3 s.heap s.heap.size (Nat.le_refl _) p e ha hc hk s m _ below hf ((Spec.applies_iff_loose hf).mp happ).1 ⟨rfl, State.Warmed39.refl s, rfl⟩ trivial
  obtain rfl : v = some (.int 1) := hv.1
  refine ⟨n, _, h1, h2, h3, hpost _ _ _ _ _ _ ⟨Cond.after_iff.mpr rfl, Cond.after_iff.mpr (eq_i res_at (Term.int_eval (1)) rfl), trivial⟩ ⟨hq.1, hq.2.1, hq.2.2.1, (hq.2.2.2.sift fun y hy => Or.inr (N y hy)).mono (by decide) (by decide)⟩⟩
theorem main_1_1 : Claimed_1_1 := comes_1 fun _ _ _ _ _ _ h hF => ⟨h.1, hF⟩
theorem main_1_2 : Claimed_1_2 := comes_1 fun _ _ _ _ _ _ h hF => ⟨h.2.1, hF⟩
end Jvm.Pilot.@@N@@
namespace Jvm.Pilot.@@N@@
open Jvm Jvm.ClassFile Sem Op Lib Jvm.Free Jvm.Stand Jvm.Pilot.@@N@@.Jvm.D
/-! MADE BY PROGRAM (witnessworld.py) out of the Statement's table words and the real class files: 17 classes; the members and pool entries that the words name. The judged class is class 1, her method 2. -/
namespace start1
open Jvm.ClassFile
def u (s : String) : CpInfo := .utf8 (stringToUtf16 s)
/-- a pool by its gaps: so many unusable entries, then the entry; so many at the end -/
def gap : Nat → List CpInfo → List CpInfo
  | 0, r => r
  | n + 1, r => .unusable :: gap n r
def poolList (es : List (Nat × CpInfo)) (last : Nat) : List CpInfo := es.foldr (fun e r => gap e.1 (e.2 :: r)) (gap last [])
def pool (es : List (Nat × CpInfo)) (last : Nat) : Array CpInfo := ⟨poolList es last⟩
def fileOf (pool : Array CpInfo) (this : Nat) (attrs : Array Attribute := #[]) (ms : Array MethodInfo := #[]) (fl : Nat := 33) (sup : Nat := 0) (ifs : Array Nat := #[]) (fds : Array FieldInfo := #[]) : ClassFile where
  minorVersion := 0
  majorVersion := 65
  constantPool := pool
  accessFlags := fl
  thisClass := this
  superClass := sup
  interfaces := ifs
  fields := fds
  methods := ms
  attributes := attrs
def plain (name : String) (sup : Option ClassId) : Class where
  name := name
  kind := .ordinary
  loader := none
  accessFlags := 33
  super := sup
  interfaces := #[]
  cf := none
  fields := #[]
  methods := #[]
  instanceTypes := #[]
  staticTypes := #[]
  resolved := #[]
  callSites := []
  init := .initialized
  statics := none
  mirror := none

def pool0 : Array CpInfo := pool [(5, u "<init>"), (0, u "()V"), (1, .class_ 10), (1, u "java/lang/Object")] 113

def k0c0 : Code := { maxStack := 0, maxLocals := 1, code := object_method_1_code, exceptionTable := #[], attributes := #[] }
def k0m0 : Method := { name := "<init>", desc := "()V", sig := { parameters := [], returnType := none }, accessFlags := 1, code := some k0c0 }
/-- java/lang/Object -/
def k0 : Class := { plain "java/lang/Object" none with
  accessFlags := 33
  interfaces := #[]
  cf := some (fileOf pool0 8 #[] #[{ accessFlags := 1, nameIndex := 5, descriptorIndex := 6, attributes := #[] }] 33 0 #[] #[])
  fields := #[]
  methods := #[k0m0]
  instanceTypes := #[]
  staticTypes := #[]
  resolved := Array.replicate 124 none
  statics := none }

def pool1 : Array CpInfo := pool [(2, .class_ 4), (1, u "java/lang/Object"), (0, u "<init>"), (0, u "()V"), (0, .methodref 8 9), (0, .class_ 10), (0, .nameAndType 11 12), (0, u "com/example/encabeza/encabeza/model/FieldIndicatorPinLaw"), (0, u "draw"), (0, u "(IIII)B"), (0, .class_ 14), (0, u "com/example/encabeza/encabeza/model/Field"), (0, .string 16), (0, u "245"), (0, .methodref 13 18), (0, .nameAndType 5 19), (0, u "(Ljava/lang/String;[BII)V"), (0, .methodref 13 21), (0, .nameAndType 22 23), (0, u "indicator"), (0, u "(I)I"), (3, u "law"), (0, u "(IIII)Z")] 4

def k1m0 : Method := { name := "<init>", desc := "()V", sig := { parameters := [], returnType := none }, accessFlags := 1, code := none }
def k1c1 : Code := { maxStack := 2, maxLocals := 4, code := method_2_code, exceptionTable := #[], attributes := #[] }
def k1m1 : Method := { name := "draw", desc := "(IIII)B", sig := { parameters := [.int, .int, .int, .int], returnType := some .byte }, accessFlags := 10, code := some k1c1 }
def k1c2 : Code := { maxStack := 7, maxLocals := 15, code := code, exceptionTable := #[], attributes := #[] }
def k1m2 : Method := { name := "law", desc := "(IIII)Z", sig := { parameters := [.int, .int, .int, .int], returnType := some .boolean }, accessFlags := 9, code := some k1c2 }
/-- com/example/encabeza/encabeza/model/FieldIndicatorPinLaw -/
def k1 : Class := { plain "com/example/encabeza/encabeza/model/FieldIndicatorPinLaw" (some 0) with
  accessFlags := 49
  interfaces := #[]
  cf := some (fileOf pool1 8 #[] #[{ accessFlags := 1, nameIndex := 5, descriptorIndex := 6, attributes := #[] }, { accessFlags := 10, nameIndex := 11, descriptorIndex := 12, attributes := #[] }, { accessFlags := 9, nameIndex := 27, descriptorIndex := 28, attributes := #[] }] 49 2 #[] #[])
  fields := #[]
  methods := #[k1m0, k1m1, k1m2]
  instanceTypes := #[]
  staticTypes := #[]
  resolved := Array.replicate 33 none
  statics := none }

def pool2 : Array CpInfo := pool [(3, .methodref 4 5), (0, .class_ 6), (0, .nameAndType 7 8), (0, u "java/lang/Object"), (0, u "<init>"), (0, u "()V"), (0, .fieldref 10 11), (0, .class_ 12), (0, .nameAndType 13 14), (0, u "com/example/encabeza/encabeza/model/Field"), (0, u "tag"), (0, u "Ljava/lang/String;"), (0, .methodref 16 17), (0, .class_ 18), (0, .nameAndType 19 20), (0, u "java/util/Arrays"), (0, u "copyOfRange"), (0, u "([BII)[B"), (0, .fieldref 10 22), (0, .nameAndType 23 24), (0, u "data"), (0, u "[B"), (27, u "subfields"), (0, u "Ljava/util/List;"), (3, u "(I)I"), (43, u "NO_INDICATOR"), (0, u "I"), (4, u "(Ljava/lang/String;[BII)V"), (9, u "indicator")] 8

def k2c0 : Code := { maxStack := 4, maxLocals := 5, code := prog_43_method_1_code, exceptionTable := #[], attributes := #[] }
def k2m0 : Method := { name := "<init>", desc := "(Ljava/lang/String;[BII)V", sig := { parameters := [(.object "java/lang/String"), (.array .byte), .int, .int], returnType := none }, accessFlags := 1, code := some k2c0 }
def k2c1 : Code := { maxStack := 2, maxLocals := 3, code := prog_43_method_9_code, exceptionTable := #[], attributes := #[] }
def k2m1 : Method := { name := "indicator", desc := "(I)I", sig := { parameters := [.int], returnType := some .int }, accessFlags := 1, code := some k2c1 }
/-- com/example/encabeza/encabeza/model/Field -/
def k2 : Class := { plain "com/example/encabeza/encabeza/model/Field" (some 0) with
  accessFlags := 49
  interfaces := #[]
  cf := some (fileOf pool2 10 #[] #[{ accessFlags := 1, nameIndex := 7, descriptorIndex := 107, attributes := #[] }, { accessFlags := 1, nameIndex := 117, descriptorIndex := 57, attributes := #[] }] 49 4 #[] #[{ accessFlags := 25, nameIndex := 101, descriptorIndex := 102, attributes := #[] }, { accessFlags := 18, nameIndex := 13, descriptorIndex := 14, attributes := #[] }, { accessFlags := 18, nameIndex := 23, descriptorIndex := 24, attributes := #[] }, { accessFlags := 2, nameIndex := 52, descriptorIndex := 53, attributes := #[] }])
  fields := #[{ name := "NO_INDICATOR", type := .int, accessFlags := 25, slot := 0, constantValue := 0 }, { name := "tag", type := (.object "java/lang/String"), accessFlags := 18, slot := 0, constantValue := 0 }, { name := "data", type := (.array .byte), accessFlags := 18, slot := 1, constantValue := 0 }, { name := "subfields", type := (.object "java/util/List"), accessFlags := 2, slot := 2, constantValue := 0 }]
  methods := #[k2m0, k2m1]
  instanceTypes := #[(.object "java/lang/String"), (.array .byte), (.object "java/util/List")]
  staticTypes := #[.int]
  resolved := Array.replicate 126 none
  statics := none }

def pool3 : Array CpInfo := pool [(1, .class_ 2), (0, u "java/io/Serializable"), (0, .class_ 4), (0, u "java/lang/Object")] 2

/-- java/io/Serializable -/
def k3 : Class := { plain "java/io/Serializable" (some 0) with
  accessFlags := 1537
  interfaces := #[]
  cf := some (fileOf pool3 1 #[] #[] 1537 3 #[] #[])
  fields := #[]
  methods := #[]
  instanceTypes := #[]
  staticTypes := #[]
  resolved := Array.replicate 7 none
  statics := none }

def pool4 : Array CpInfo := pool [(1, .class_ 2), (0, u "java/lang/Comparable"), (0, .class_ 4), (0, u "java/lang/Object")] 7

/-- java/lang/Comparable -/
def k4 : Class := { plain "java/lang/Comparable" (some 0) with
  accessFlags := 1537
  interfaces := #[]
  cf := some (fileOf pool4 1 #[] #[] 1537 3 #[] #[])
  fields := #[]
  methods := #[]
  instanceTypes := #[]
  staticTypes := #[]
  resolved := Array.replicate 12 none
  statics := none }

def pool5 : Array CpInfo := pool [(2, .class_ 4), (1, u "java/lang/CharSequence"), (42, .class_ 48), (0, u "java/lang/CharSequence$1CodePointIterator"), (10, .class_ 60), (0, u "java/lang/CharSequence$1CharIterator"), (5, .class_ 67), (0, u "java/lang/Object")] 63

/-- java/lang/CharSequence -/
def k5 : Class := { plain "java/lang/CharSequence" (some 0) with
  accessFlags := 1537
  interfaces := #[]
  cf := some (fileOf pool5 2 #[.nestMembers #[47, 59]] #[] 1537 66 #[] #[])
  fields := #[]
  methods := #[]
  instanceTypes := #[]
  staticTypes := #[]
  resolved := Array.replicate 131 none
  statics := none }

def pool6 : Array CpInfo := pool [(1, .class_ 2), (0, u "java/lang/constant/Constable"), (0, .class_ 4), (0, u "java/lang/Object")] 6

/-- java/lang/constant/Constable -/
def k6 : Class := { plain "java/lang/constant/Constable" (some 0) with
  accessFlags := 1537
  interfaces := #[]
  cf := some (fileOf pool6 1 #[] #[] 1537 3 #[] #[])
  fields := #[]
  methods := #[]
  instanceTypes := #[]
  staticTypes := #[]
  resolved := Array.replicate 11 none
  statics := none }

def pool7 : Array CpInfo := pool [(1, .class_ 2), (0, u "java/lang/constant/ConstantDesc"), (0, .class_ 4), (0, u "java/lang/Object")] 32

/-- java/lang/constant/ConstantDesc -/
def k7 : Class := { plain "java/lang/constant/ConstantDesc" (some 0) with
  accessFlags := 1537
  interfaces := #[]
  cf := some (fileOf pool7 1 #[] #[] 1537 3 #[] #[])
  fields := #[]
  methods := #[]
  instanceTypes := #[]
  staticTypes := #[]
  resolved := Array.replicate 37 none
  statics := none }

def pool8 : Array CpInfo := pool [(2, .class_ 4), (1, u "java/lang/Object"), (0, u "<init>"), (0, u "()V"), (3, .class_ 12), (1, u "java/lang/String"), (0, u "value"), (0, u "[B"), (2, u "coder"), (0, u "B"), (2, u "hash"), (0, u "I"), (2, u "hashIsZero"), (0, u "Z"), (13, u "COMPACT_STRINGS"), (534, .class_ 576), (0, u "java/lang/CharSequence"), (22, u "CASE_INSENSITIVE_ORDER"), (0, u "Ljava/util/Comparator;"), (500, u "serialPersistentFields"), (0, u "[Ljava/io/ObjectStreamField;"), (0, .class_ 1104), (0, u "java/lang/String$CaseInsensitiveComparator"), (1, .class_ 1107), (0, u "java/io/Serializable"), (0, .class_ 1109), (0, u "java/lang/Comparable"), (0, .class_ 1111), (0, u "java/lang/constant/Constable"), (0, .class_ 1113), (0, u "java/lang/constant/ConstantDesc"), (2, u "serialVersionUID"), (0, u "J"), (3, u "REPL"), (0, u "C"), (2, u "LATIN1"), (1, u "UTF16")] 323

def k8m0 : Method := { name := "<init>", desc := "()V", sig := { parameters := [], returnType := none }, accessFlags := 1, code := none }
/-- java/lang/String -/
def k8 : Class := { plain "java/lang/String" (some 0) with
  accessFlags := 49
  interfaces := #[3, 4, 5, 6, 7]
  cf := some (fileOf pool8 10 #[.nestMembers #[1103]] #[{ accessFlags := 1, nameIndex := 5, descriptorIndex := 6, attributes := #[] }] 49 2 #[1106, 1108, 575, 1110, 1112] #[{ accessFlags := 18, nameIndex := 13, descriptorIndex := 14, attributes := #[] }, { accessFlags := 18, nameIndex := 17, descriptorIndex := 18, attributes := #[] }, { accessFlags := 2, nameIndex := 21, descriptorIndex := 22, attributes := #[] }, { accessFlags := 2, nameIndex := 25, descriptorIndex := 26, attributes := #[] }, { accessFlags := 26, nameIndex := 1116, descriptorIndex := 1117, attributes := #[] }, { accessFlags := 24, nameIndex := 40, descriptorIndex := 26, attributes := #[] }, { accessFlags := 26, nameIndex := 1101, descriptorIndex := 1102, attributes := #[] }, { accessFlags := 26, nameIndex := 1121, descriptorIndex := 1122, attributes := #[] }, { accessFlags := 25, nameIndex := 599, descriptorIndex := 600, attributes := #[] }, { accessFlags := 24, nameIndex := 1125, descriptorIndex := 18, attributes := #[] }, { accessFlags := 24, nameIndex := 1127, descriptorIndex := 18, attributes := #[] }])
  fields := #[{ name := "value", type := (.array .byte), accessFlags := 18, slot := 0, constantValue := 0 }, { name := "coder", type := .byte, accessFlags := 18, slot := 1, constantValue := 0 }, { name := "hash", type := .int, accessFlags := 2, slot := 2, constantValue := 0 }, { name := "hashIsZero", type := .boolean, accessFlags := 2, slot := 3, constantValue := 0 }, { name := "serialVersionUID", type := .long, accessFlags := 26, slot := 0, constantValue := 0 }, { name := "COMPACT_STRINGS", type := .boolean, accessFlags := 24, slot := 1, constantValue := 0 }, { name := "serialPersistentFields", type := (.array (.object "java/io/ObjectStreamField")), accessFlags := 26, slot := 2, constantValue := 0 }, { name := "REPL", type := .char, accessFlags := 26, slot := 3, constantValue := 0 }, { name := "CASE_INSENSITIVE_ORDER", type := (.object "java/util/Comparator"), accessFlags := 25, slot := 4, constantValue := 0 }, { name := "LATIN1", type := .byte, accessFlags := 24, slot := 5, constantValue := 0 }, { name := "UTF16", type := .byte, accessFlags := 24, slot := 6, constantValue := 0 }]
  methods := #[k8m0]
  instanceTypes := #[(.array .byte), .byte, .int, .boolean]
  staticTypes := #[.long, .boolean, (.array (.object "java/io/ObjectStreamField")), .char, (.object "java/util/Comparator"), .byte, .byte]
  resolved := Array.replicate 1451 none
  statics := none }

def pool9 : Array CpInfo := pool [(2, .class_ 4), (1, u "java/lang/Object"), (0, u "<init>"), (0, u "()V"), (7, .class_ 16), (1, u "java/util/Arrays"), (57, .class_ 76), (1, u "java/util/Arrays$NaturalOrder"), (36, .class_ 115), (1, u "java/util/Arrays$LegacyMergeSort"), (1, u "Z"), (21, u "copyOfRange"), (10, .methodref 151 152), (0, .class_ 153), (0, .nameAndType 154 155), (0, u "java/lang/System"), (0, u "arraycopy"), (0, u "(Ljava/lang/Object;ILjava/lang/Object;II)V"), (148, .methodref 305 306), (0, .class_ 307), (0, .nameAndType 308 309), (0, u "java/lang/Math"), (0, u "min"), (0, u "(II)I"), (29, .methodref 14 340), (0, .nameAndType 341 342), (0, u "copyOfRangeByte"), (0, u "([BII)[B"), (0, .methodref 14 344), (0, .nameAndType 345 346), (0, u "checkLength"), (0, u "(II)V"), (28, .class_ 376), (0, u "java/util/Arrays$ArrayList"), (68, u "$assertionsDisabled"), (269, u "MIN_ARRAY_SORT_GRAN"), (0, u "I"), (2, u "INSERTIONSORT_THRESHOLD"), (255, .class_ 976), (0, u "java/util/Arrays$ArrayItr")] 52

def k9m0 : Method := { name := "<init>", desc := "()V", sig := { parameters := [], returnType := none }, accessFlags := 2, code := none }
def k9c1 : Code := { maxStack := 4, maxLocals := 2, code := jdk_65_method_131_code, exceptionTable := #[], attributes := #[] }
def k9m1 : Method := { name := "checkLength", desc := "(II)V", sig := { parameters := [.int, .int], returnType := none }, accessFlags := 10, code := some k9c1 }
def k9c2 : Code := { maxStack := 3, maxLocals := 3, code := jdk_65_method_132_code, exceptionTable := #[], attributes := #[] }
def k9m2 : Method := { name := "copyOfRange", desc := "([BII)[B", sig := { parameters := [(.array .byte), .int, .int], returnType := some (.array .byte) }, accessFlags := 9, code := some k9c2 }
def k9c3 : Code := { maxStack := 6, maxLocals := 5, code := jdk_65_method_133_code, exceptionTable := #[], attributes := #[] }
def k9m3 : Method := { name := "copyOfRangeByte", desc := "([BII)[B", sig := { parameters := [(.array .byte), .int, .int], returnType := some (.array .byte) }, accessFlags := 10, code := some k9c3 }
/-- java/util/Arrays -/
def k9 : Class := { plain "java/util/Arrays" (some 0) with
  accessFlags := 49
  interfaces := #[]
  cf := some (fileOf pool9 14 #[.nestMembers #[975, 375, 113, 74]] #[{ accessFlags := 2, nameIndex := 5, descriptorIndex := 6, attributes := #[] }, { accessFlags := 10, nameIndex := 345, descriptorIndex := 346, attributes := #[] }, { accessFlags := 9, nameIndex := 139, descriptorIndex := 342, attributes := #[] }, { accessFlags := 10, nameIndex := 341, descriptorIndex := 342, attributes := #[] }] 49 2 #[] #[{ accessFlags := 26, nameIndex := 715, descriptorIndex := 716, attributes := #[] }, { accessFlags := 26, nameIndex := 719, descriptorIndex := 716, attributes := #[] }, { accessFlags := 4120, nameIndex := 445, descriptorIndex := 117, attributes := #[] }])
  fields := #[{ name := "MIN_ARRAY_SORT_GRAN", type := .int, accessFlags := 26, slot := 0, constantValue := 0 }, { name := "INSERTIONSORT_THRESHOLD", type := .int, accessFlags := 26, slot := 1, constantValue := 0 }, { name := "$assertionsDisabled", type := .boolean, accessFlags := 4120, slot := 2, constantValue := 0 }]
  methods := #[k9m0, k9m1, k9m2, k9m3]
  instanceTypes := #[]
  staticTypes := #[.int, .int, .boolean]
  resolved := Array.replicate 1029 none
  statics := none }

def pool10 : Array CpInfo := pool [(1, .class_ 2), (0, u "java/lang/Math"), (1, .class_ 6), (1, u "java/lang/Object"), (0, u "<init>"), (0, u "()V"), (89, .class_ 100), (1, u "java/lang/Math$RandomNumberGeneratorHolder"), (71, u "negativeZeroFloatBits"), (0, u "J"), (2, u "negativeZeroDoubleBits"), (24, u "min"), (43, u "$assertionsDisabled"), (0, u "Z"), (88, u "(II)I"), (2, u "twoToTheDoubleScaleDown"), (0, u "D"), (4, u "twoToTheDoubleScaleUp"), (9, u "E"), (3, u "PI"), (2, u "TAU"), (2, u "DEGREES_TO_RADIANS"), (0, u "RADIANS_TO_DEGREES")] 94

def k10m0 : Method := { name := "<init>", desc := "()V", sig := { parameters := [], returnType := none }, accessFlags := 2, code := none }
def k10c1 : Code := { maxStack := 2, maxLocals := 2, code := jdk_29_method_69_code, exceptionTable := #[], attributes := #[] }
def k10m1 : Method := { name := "min", desc := "(II)I", sig := { parameters := [.int, .int], returnType := some .int }, accessFlags := 9, code := some k10c1 }
/-- java/lang/Math -/
def k10 : Class := { plain "java/lang/Math" (some 0) with
  accessFlags := 49
  interfaces := #[]
  cf := some (fileOf pool10 1 #[.nestMembers #[98]] #[{ accessFlags := 2, nameIndex := 7, descriptorIndex := 8, attributes := #[] }, { accessFlags := 9, nameIndex := 201, descriptorIndex := 335, attributes := #[] }] 49 4 #[] #[{ accessFlags := 25, nameIndex := 354, descriptorIndex := 339, attributes := #[] }, { accessFlags := 25, nameIndex := 358, descriptorIndex := 339, attributes := #[] }, { accessFlags := 25, nameIndex := 361, descriptorIndex := 339, attributes := #[] }, { accessFlags := 26, nameIndex := 364, descriptorIndex := 339, attributes := #[] }, { accessFlags := 26, nameIndex := 365, descriptorIndex := 339, attributes := #[] }, { accessFlags := 26, nameIndex := 172, descriptorIndex := 173, attributes := #[] }, { accessFlags := 26, nameIndex := 176, descriptorIndex := 173, attributes := #[] }, { accessFlags := 8, nameIndex := 344, descriptorIndex := 339, attributes := #[] }, { accessFlags := 8, nameIndex := 338, descriptorIndex := 339, attributes := #[] }, { accessFlags := 4120, nameIndex := 245, descriptorIndex := 246, attributes := #[] }])
  fields := #[{ name := "E", type := .double, accessFlags := 25, slot := 0, constantValue := 0 }, { name := "PI", type := .double, accessFlags := 25, slot := 1, constantValue := 0 }, { name := "TAU", type := .double, accessFlags := 25, slot := 2, constantValue := 0 }, { name := "DEGREES_TO_RADIANS", type := .double, accessFlags := 26, slot := 3, constantValue := 0 }, { name := "RADIANS_TO_DEGREES", type := .double, accessFlags := 26, slot := 4, constantValue := 0 }, { name := "negativeZeroFloatBits", type := .long, accessFlags := 26, slot := 5, constantValue := 0 }, { name := "negativeZeroDoubleBits", type := .long, accessFlags := 26, slot := 6, constantValue := 0 }, { name := "twoToTheDoubleScaleUp", type := .double, accessFlags := 8, slot := 7, constantValue := 0 }, { name := "twoToTheDoubleScaleDown", type := .double, accessFlags := 8, slot := 8, constantValue := 0 }, { name := "$assertionsDisabled", type := .boolean, accessFlags := 4120, slot := 9, constantValue := 0 }]
  methods := #[k10m0, k10m1]
  instanceTypes := #[]
  staticTypes := #[.double, .double, .double, .double, .double, .long, .long, .double, .double, .boolean]
  resolved := Array.replicate 460 none
  statics := none }

def pool11 : Array CpInfo := pool [(2, .class_ 4), (1, u "java/lang/Object"), (0, u "<init>"), (0, u "()V"), (1, .class_ 10), (1, u "java/lang/System"), (0, u "allowSecurityManager"), (0, u "I"), (16, u "cons"), (0, u "Ljava/io/Console;"), (77, .class_ 110), (1, u "java/lang/System$CallersHolder"), (43, u "initialErrStream"), (0, u "Ljava/io/PrintStream;"), (19, u "security"), (0, u "Ljava/lang/SecurityManager;"), (31, .class_ 209), (0, u "java/lang/System$1"), (7, u "props"), (0, u "Ljava/util/Properties;"), (2, u "lineSeparator"), (0, u "Ljava/lang/String;"), (96, .class_ 321), (1, u "java/lang/System$LoggerFinder"), (5, .class_ 328), (0, u "java/lang/System$Logger"), (67, u "err"), (2, u "out"), (91, u "notSupportedJnuEncoding"), (15, u "in"), (17, u "initialIn"), (0, u "Ljava/io/InputStream;"), (35, u "bootLayer"), (0, u "Ljava/lang/ModuleLayer;"), (99, .class_ 664), (0, u "java/lang/System$2"), (9, u "NEVER"), (2, u "MAYBE"), (49, u "arraycopy"), (0, u "(Ljava/lang/Object;ILjava/lang/Object;II)V"), (72, .class_ 802), (0, u "java/lang/System$Logger$Level")] 31

def k11m0 : Method := { name := "<init>", desc := "()V", sig := { parameters := [], returnType := none }, accessFlags := 2, code := none }
def k11m1 : Method := { name := "arraycopy", desc := "(Ljava/lang/Object;ILjava/lang/Object;II)V", sig := { parameters := [(.object "java/lang/Object"), .int, (.object "java/lang/Object"), .int, .int], returnType := none }, accessFlags := 265, code := none }
/-- java/lang/System -/
def k11 : Class := { plain "java/lang/System" (some 0) with
  accessFlags := 49
  interfaces := #[]
  cf := some (fileOf pool11 8 #[.nestMembers #[319, 327, 801, 108, 663, 208]] #[{ accessFlags := 2, nameIndex := 5, descriptorIndex := 6, attributes := #[] }, { accessFlags := 265, nameIndex := 727, descriptorIndex := 728, attributes := #[] }] 49 2 #[] #[{ accessFlags := 25, nameIndex := 507, descriptorIndex := 526, attributes := #[] }, { accessFlags := 25, nameIndex := 399, descriptorIndex := 155, attributes := #[] }, { accessFlags := 25, nameIndex := 396, descriptorIndex := 155, attributes := #[] }, { accessFlags := 10, nameIndex := 525, descriptorIndex := 526, attributes := #[] }, { accessFlags := 26, nameIndex := 674, descriptorIndex := 12, attributes := #[] }, { accessFlags := 26, nameIndex := 677, descriptorIndex := 12, attributes := #[] }, { accessFlags := 10, nameIndex := 11, descriptorIndex := 12, attributes := #[] }, { accessFlags := 74, nameIndex := 175, descriptorIndex := 176, attributes := #[] }, { accessFlags := 10, nameIndex := 491, descriptorIndex := 222, attributes := #[] }, { accessFlags := 74, nameIndex := 29, descriptorIndex := 30, attributes := #[] }, { accessFlags := 74, nameIndex := 154, descriptorIndex := 155, attributes := #[] }, { accessFlags := 10, nameIndex := 217, descriptorIndex := 218, attributes := #[] }, { accessFlags := 10, nameIndex := 221, descriptorIndex := 222, attributes := #[] }, { accessFlags := 8, nameIndex := 562, descriptorIndex := 563, attributes := #[] }])
  fields := #[{ name := "in", type := (.object "java/io/InputStream"), accessFlags := 25, slot := 0, constantValue := 0 }, { name := "out", type := (.object "java/io/PrintStream"), accessFlags := 25, slot := 1, constantValue := 0 }, { name := "err", type := (.object "java/io/PrintStream"), accessFlags := 25, slot := 2, constantValue := 0 }, { name := "initialIn", type := (.object "java/io/InputStream"), accessFlags := 10, slot := 3, constantValue := 0 }, { name := "NEVER", type := .int, accessFlags := 26, slot := 4, constantValue := 0 }, { name := "MAYBE", type := .int, accessFlags := 26, slot := 5, constantValue := 0 }, { name := "allowSecurityManager", type := .int, accessFlags := 10, slot := 6, constantValue := 0 }, { name := "security", type := (.object "java/lang/SecurityManager"), accessFlags := 74, slot := 7, constantValue := 0 }, { name := "notSupportedJnuEncoding", type := (.object "java/lang/String"), accessFlags := 10, slot := 8, constantValue := 0 }, { name := "cons", type := (.object "java/io/Console"), accessFlags := 74, slot := 9, constantValue := 0 }, { name := "initialErrStream", type := (.object "java/io/PrintStream"), accessFlags := 74, slot := 10, constantValue := 0 }, { name := "props", type := (.object "java/util/Properties"), accessFlags := 10, slot := 11, constantValue := 0 }, { name := "lineSeparator", type := (.object "java/lang/String"), accessFlags := 10, slot := 12, constantValue := 0 }, { name := "bootLayer", type := (.object "java/lang/ModuleLayer"), accessFlags := 8, slot := 13, constantValue := 0 }]
  methods := #[k11m0, k11m1]
  instanceTypes := #[]
  staticTypes := #[(.object "java/io/InputStream"), (.object "java/io/PrintStream"), (.object "java/io/PrintStream"), (.object "java/io/InputStream"), .int, .int, .int, (.object "java/lang/SecurityManager"), (.object "java/lang/String"), (.object "java/io/Console"), (.object "java/io/PrintStream"), (.object "java/util/Properties"), (.object "java/lang/String"), (.object "java/lang/ModuleLayer")]
  resolved := Array.replicate 834 none
  statics := none }

def pool12 : Array CpInfo := pool [(1, u "java/lang/Cloneable"), (0, .class_ 1), (0, u "java/lang/Object"), (0, .class_ 3)] 3

/-- java/lang/Cloneable -/
def k12 : Class := { plain "java/lang/Cloneable" (some 0) with
  accessFlags := 1537
  interfaces := #[]
  cf := some (fileOf pool12 2 #[] #[] 1537 4 #[] #[])
  fields := #[]
  methods := #[]
  instanceTypes := #[]
  staticTypes := #[]
  resolved := Array.replicate 8 none
  statics := none }

/-- the primitive byte -/
def k13 : Class := { plain "byte" none with kind := .primitive 'B', accessFlags := 0x411 }
/-- [B -/
def k14 : Class := { plain "[B" (some 0) with kind := .array 13 .byte, interfaces := #[12, 3], accessFlags := 1041 }

/-- the primitive int -/
def k15 : Class := { plain "int" none with kind := .primitive 'I', accessFlags := 0x411 }
/-- [I -/
def k16 : Class := { plain "[I" (some 0) with kind := .array 15 .int, interfaces := #[12, 3], accessFlags := 1041 }

def heap : Heap := #[]
def classes : Array Class := #[k0, k1, k2, k3, k4, k5, k6, k7, k8, k9, k10, k11, k12, k13, k14, k15, k16]
def interned : List (Array UInt16 × Addr) := []
def slotsUsed : Nat := 0
def theMethod : MethodId := ⟨1, 2⟩
def args0 : Array Value := #[.int 5, .int 2, .int 7, .int 1]
def aboutOver (below : List Frame) : State where
  vm := { classes := classes, interned := interned.toArray }
  heap := heap
  slotsUsed := slotsUsed
  threads := #[{ frames := .invoking theMethod args0 :: below }]
def below0 : List Frame := [.native { method := ⟨0, 0⟩, args := #[] }]
def about1 : State := aboutOver below0
def p0 : Program := .bare "" "" ""
def e0 : Env := launch0.env 0 0 0
theorem w_frames : about1.frames = Frame.invoking theMethod args0 :: below0 := rfl
set_option maxRecDepth 65536 in
theorem w_args : argsFit about1.vm theMethod args0 = true := by decide +kernel
set_option maxRecDepth 65536 in
theorem w_heap : heapFits about1 = true := by decide +kernel
set_option maxRecDepth 65536 in
theorem w_runnable : about1.curStatus? = some .runnable := by decide +kernel
set_option maxRecDepth 65536 in
theorem w_alone : about1.alone = true := by decide +kernel
set_option maxRecDepth 65536 in
theorem w_named : about1.methodNamed? x = some theMethod := by decide +kernel
set_option maxRecDepth 65536 in
theorem w_hears : about1.hears theMethod below0 = true := by decide +kernel
set_option maxRecDepth 65536 in
theorem w_ripe : about1.ripe theMethod args0 below0 = true := by decide +kernel
theorem w_running : about1.status = .running := rfl
set_option maxRecDepth 65536 in
theorem w_room : about1.hasRoom e0.platform room_1 = true :=
  launch0.hasRoom_least _ room_1 (by decide +kernel) (by decide +kernel) (by decide +kernel) (by decide +kernel) (by decide +kernel) (by decide +kernel)
theorem allAtoms_all (ts : List Jvm.Cond) (a : Array Jvm.Value) (st : Jvm.State) : (allAtoms ts).before a st = ts.all (fun c => c.before a st) := by
  induction ts with
  | nil => rfl
  | cons c t ih =>
    show (Jvm.Cond.and c (allAtoms t)).before a st = _
    rw [Jvm.Cond.before_and, ih, List.all_cons]
def words1 : List Jvm.Cond := Jvm.Cond.code x code maxLocals ret :: tables_1
/-- a 'code' word, met by the world's own term for the bytes: nothing is compared byte by byte -/
theorem code_word {y : MethodName} {bytes : ByteArray} {mx : Nat} {rt : Option FieldType} {a : Array Value} {s : State} {m : MethodId} {meth : Method} {c : Code} (h1 : s.methodNamed? y = some m) (h2 : s.vm.method? m = some meth) (h3 : meth.code = some c) (h4 : c.code = bytes)
    (h5 : (c.maxLocals == mx && c.exceptionTable.isEmpty && decide (c.maxStack ≤ mostOperands) && decide (meth.sig.returnType = rt) && !meth.locks && decide (parseMethodDescriptor y.desc = some meth.sig)) = true) : (Jvm.Cond.code y bytes mx rt).before a s = true := by
  simp only [Bool.and_eq_true, beq_iff_eq, Bool.not_eq_true', decide_eq_true_eq] at h5
  obtain ⟨⟨⟨⟨⟨g1, g2⟩, g3⟩, g4⟩, g5⟩, g6⟩ := h5
  simp [Cond.before, Cond.holds, Cond.value, h1, h2, h3, h4, g1, g2, g3, g4, g5, g6]
def isCode : Jvm.Cond → Bool
  | .code _ _ _ _ => true
  | _ => false
theorem all_split {L : List Jvm.Cond} {P : Jvm.Cond → Bool} (h1 : L.all (fun c => isCode c || P c) = true) (h2 : ∀ c ∈ L.filter isCode, P c = true) : L.all P = true := by
  refine List.all_eq_true.mpr fun c hc => ?_
  have h := List.all_eq_true.mp h1 c hc
  rcases Bool.eq_false_or_eq_true (isCode c) with hi | hi
  · exact h2 c (List.mem_filter.mpr ⟨hc, hi⟩)
  · simpa [hi] using h
set_option maxRecDepth 65536 in
theorem w_c0 : (Jvm.Cond.code x code maxLocals ret).before args0 about1 = true := code_word (m := ⟨1, 2⟩) (meth := k1m2) (c := k1c2) (by decide +kernel) rfl rfl rfl (by decide +kernel)
set_option maxRecDepth 65536 in
theorem w_c1 : (Jvm.Cond.code ({ cls := "com/example/encabeza/encabeza/model/FieldIndicatorPinLaw", name := "draw", desc := "(IIII)B" } : Jvm.MethodName) method_2_code (4 : Nat) (Option.some Jvm.ClassFile.FieldType.byte)).before args0 about1 = true := code_word (m := ⟨1, 1⟩) (meth := k1m1) (c := k1c1) (by decide +kernel) rfl rfl rfl (by decide +kernel)
set_option maxRecDepth 65536 in
theorem w_c2 : (Jvm.Cond.code ({ cls := "com/example/encabeza/encabeza/model/Field", name := "<init>", desc := "(Ljava/lang/String;[BII)V" } : Jvm.MethodName) prog_43_method_1_code (5 : Nat) (Option.none : Option Jvm.ClassFile.FieldType)).before args0 about1 = true := code_word (m := ⟨2, 0⟩) (meth := k2m0) (c := k2c0) (by decide +kernel) rfl rfl rfl (by decide +kernel)
set_option maxRecDepth 65536 in
theorem w_c3 : (Jvm.Cond.code ({ cls := "java/lang/Object", name := "<init>", desc := "()V" } : Jvm.MethodName) object_method_1_code (1 : Nat) (Option.none : Option Jvm.ClassFile.FieldType)).before args0 about1 = true := code_word (m := ⟨0, 0⟩) (meth := k0m0) (c := k0c0) (by decide +kernel) rfl rfl rfl (by decide +kernel)
set_option maxRecDepth 65536 in
theorem w_c4 : (Jvm.Cond.code ({ cls := "java/util/Arrays", name := "copyOfRange", desc := "([BII)[B" } : Jvm.MethodName) jdk_65_method_132_code (3 : Nat) (Option.some (Jvm.ClassFile.FieldType.array Jvm.ClassFile.FieldType.byte))).before args0 about1 = true := code_word (m := ⟨9, 2⟩) (meth := k9m2) (c := k9c2) (by decide +kernel) rfl rfl rfl (by decide +kernel)
set_option maxRecDepth 65536 in
theorem w_c5 : (Jvm.Cond.code ({ cls := "java/util/Arrays", name := "copyOfRangeByte", desc := "([BII)[B" } : Jvm.MethodName) jdk_65_method_133_code (5 : Nat) (Option.some (Jvm.ClassFile.FieldType.array Jvm.ClassFile.FieldType.byte))).before args0 about1 = true := code_word (m := ⟨9, 3⟩) (meth := k9m3) (c := k9c3) (by decide +kernel) rfl rfl rfl (by decide +kernel)
set_option maxRecDepth 65536 in
theorem w_c6 : (Jvm.Cond.code ({ cls := "java/util/Arrays", name := "checkLength", desc := "(II)V" } : Jvm.MethodName) jdk_65_method_131_code (2 : Nat) (Option.none : Option Jvm.ClassFile.FieldType)).before args0 about1 = true := code_word (m := ⟨9, 1⟩) (meth := k9m1) (c := k9c1) (by decide +kernel) rfl rfl rfl (by decide +kernel)
set_option maxRecDepth 65536 in
theorem w_c7 : (Jvm.Cond.code ({ cls := "java/lang/Math", name := "min", desc := "(II)I" } : Jvm.MethodName) jdk_29_method_69_code (2 : Nat) (Option.some Jvm.ClassFile.FieldType.int)).before args0 about1 = true := code_word (m := ⟨10, 1⟩) (meth := k10m1) (c := k10c1) (by decide +kernel) rfl rfl rfl (by decide +kernel)
set_option maxRecDepth 65536 in
theorem w_c8 : (Jvm.Cond.code ({ cls := "com/example/encabeza/encabeza/model/Field", name := "indicator", desc := "(I)I" } : Jvm.MethodName) prog_43_method_9_code (3 : Nat) (Option.some Jvm.ClassFile.FieldType.int)).before args0 about1 = true := code_word (m := ⟨2, 1⟩) (meth := k2m1) (c := k2c1) (by decide +kernel) rfl rfl rfl (by decide +kernel)
def codes1 : List Jvm.Cond := [Jvm.Cond.code x code maxLocals ret, Jvm.Cond.code ({ cls := "com/example/encabeza/encabeza/model/FieldIndicatorPinLaw", name := "draw", desc := "(IIII)B" } : Jvm.MethodName) method_2_code (4 : Nat) (Option.some Jvm.ClassFile.FieldType.byte), Jvm.Cond.code ({ cls := "com/example/encabeza/encabeza/model/Field", name := "<init>", desc := "(Ljava/lang/String;[BII)V" } : Jvm.MethodName) prog_43_method_1_code (5 : Nat) (Option.none : Option Jvm.ClassFile.FieldType), Jvm.Cond.code ({ cls := "java/lang/Object", name := "<init>", desc := "()V" } : Jvm.MethodName) object_method_1_code (1 : Nat) (Option.none : Option Jvm.ClassFile.FieldType), Jvm.Cond.code ({ cls := "java/util/Arrays", name := "copyOfRange", desc := "([BII)[B" } : Jvm.MethodName) jdk_65_method_132_code (3 : Nat) (Option.some (Jvm.ClassFile.FieldType.array Jvm.ClassFile.FieldType.byte)), Jvm.Cond.code ({ cls := "java/util/Arrays", name := "copyOfRangeByte", desc := "([BII)[B" } : Jvm.MethodName) jdk_65_method_133_code (5 : Nat) (Option.some (Jvm.ClassFile.FieldType.array Jvm.ClassFile.FieldType.byte)), Jvm.Cond.code ({ cls := "java/util/Arrays", name := "checkLength", desc := "(II)V" } : Jvm.MethodName) jdk_65_method_131_code (2 : Nat) (Option.none : Option Jvm.ClassFile.FieldType), Jvm.Cond.code ({ cls := "java/lang/Math", name := "min", desc := "(II)I" } : Jvm.MethodName) jdk_29_method_69_code (2 : Nat) (Option.some Jvm.ClassFile.FieldType.int), Jvm.Cond.code ({ cls := "com/example/encabeza/encabeza/model/Field", name := "indicator", desc := "(I)I" } : Jvm.MethodName) prog_43_method_9_code (3 : Nat) (Option.some Jvm.ClassFile.FieldType.int)]
set_option maxRecDepth 65536 in
theorem codes_eq : words1.filter isCode = codes1 := rfl
theorem w_codes : ∀ c ∈ words1.filter isCode, c.before args0 about1 = true := by
  rw [codes_eq]
  intro c hc
  simp only [codes1, List.mem_cons, List.not_mem_nil, or_false] at hc
  rcases hc with rfl | rfl | rfl | rfl | rfl | rfl | rfl | rfl | rfl
  · exact w_c0
  · exact w_c1
  · exact w_c2
  · exact w_c3
  · exact w_c4
  · exact w_c5
  · exact w_c6
  · exact w_c7
  · exact w_c8
set_option maxRecDepth 65536 in
theorem w_t1 : (words1.take 24).all (fun c => isCode c || c.before args0 about1) = true := by decide +kernel
set_option maxRecDepth 65536 in
theorem w_t2 : ((words1.drop 24).take 24).all (fun c => isCode c || c.before args0 about1) = true := by decide +kernel
set_option maxRecDepth 65536 in
theorem w_t3 : ((words1.drop 24).drop 24).all (fun c => isCode c || c.before args0 about1) = true := by decide +kernel
theorem w_tables : (allAtoms (Jvm.Cond.code x code maxLocals ret :: tables_1)).before args0 about1 = true := by
  rw [allAtoms_all]
  show words1.all (fun c => c.before args0 about1) = true
  refine all_split ?_ w_codes
  rw [← List.take_append_drop 24 words1, List.all_append, w_t1, ← List.take_append_drop 24 (words1.drop 24), List.all_append, w_t2, w_t3]
  rfl
set_option maxRecDepth 65536 in
theorem w_case : (Jvm.Cond.and given_1 narrow_1).before args0 about1 = true := by decide +kernel
theorem w_applies : (headSpec (Jvm.Cond.code x code maxLocals ret :: tables_1) room_1).applies x e0.platform about1 = true :=
  (Spec.applies_iff w_frames).mpr ⟨w_running, w_runnable, w_alone, w_named, w_hears, w_ripe, w_room, w_tables⟩
theorem atStart : AtStart classFile x code maxLocals ret World_1 tables_1 room_1 Calls_1 rest_1 Pre_1 launch0 p0 e0 about1 theMethod args0 below0 :=
  ⟨lists_1, trivial, launch0.admits_env _ _ _, launch0.least_env, fairChoices_fair.cas, fairChoices_fair.clock, w_frames, w_args, w_heap, w_applies, trivial, trivial, w_case⟩
end start1
theorem witness_1 : WitnessClaimed_1 := ⟨start1.p0, start1.e0, start1.about1, start1.theMethod, start1.args0, start1.below0, start1.atStart⟩
end Jvm.Pilot.@@N@@
