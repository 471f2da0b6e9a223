import JvmDerived
import JvmDerived.Pilot.@@N@@Statement
import JvmDerived.Pilot.@@N@@Code
set_option linter.unusedVariables false
set_option linter.unusedSimpArgs false
namespace Jvm.Pilot.@@N@@
open Jvm Jvm.ClassFile Sem Op Lib Jvm.Free Jvm.Stand Jvm.LawKit Jvm.RoadKit Bundle Jvm.Pilot.@@N@@.Jvm.D
/-! the walk's own small kit: a run that ends in a return (own_Ends), a method's contract (own_Con), one step (own_go), the returns, the calls -/
section Own
variable {p : Program} {l : Launch} {e : Env} {R : Room} {s : State} {m : MethodId} {args : Array Value} {below : List Frame} {meth : Method} {c : Code} {T : State} {locs : List Loc} {cells slots : Nat} {Z : State} {a0 : Array Value} {h : Heap} {n0 kc ks : Nat}
/-- from the frame g at T the run comes to a return; what was written lies at or above n0; Q says what is returned and what the heap is then -/
def own_Ends (p : Program) (e : Env) (below : List Frame) (s : State) (n0 kc ks : Nat) (T : State) (g : JFrame) (Q : Option Value → Heap → Prop) : Prop :=
  ∃ s₂ o, Steps p.tables e below (T.setTop g) s₂ ∧ s₂.status = .running ∧ Ended s₂ below o ∧ ∃ v L, o = .returned v ∧ (Fr n0 L ∧ Q v s₂.heap) ∧ FrameEnd s o s₂ L kc ks
theorem own_go {T' : State} {g g' : JFrame} {Q : Option Value → Heap → Prop} (k : ∀ t, Steps p.tables e below (T'.setTop g') t → Steps p.tables e below (T.setTop g) t) (q : own_Ends p e below s n0 kc ks T' g' Q) : own_Ends p e below s n0 kc ks T g Q := by
  obtain ⟨s₂, o, h1, r⟩ := q
  exact ⟨s₂, o, k _ h1, r⟩
theorem own_mono {g : JFrame} {Q Q' : Option Value → Heap → Prop} (q : own_Ends p e below s n0 kc ks T g Q) (i : ∀ v h, Q v h → Q' v h) : own_Ends p e below s n0 kc ks T g Q' := by
  obtain ⟨s₂, o, h1, h2, h3, v, L, h4, ⟨h5, h6⟩, h7⟩ := q
  exact ⟨s₂, o, h1, h2, h3, v, L, h4, ⟨h5, i _ _ h6⟩, h7⟩
theorem own_retW (X : Stand p l e R s m args below meth c T locs cells slots) (hx : p.tables.exec = Jvm.exec) (hlk : meth.locks = false) {pc : Nat} {Ls : Array Slot} {w : Value} {t : FieldType} {i : Instr} {rest : List Value} (hret : meth.sig.returnType = some t) (hn : narrow t w = w)
    (hi : (i = .ireturn ∧ (t = .int ∨ t = .boolean ∨ t = .byte ∨ t = .char ∨ t = .short) ∧ ∃ z, w = .int z) ∨ (i = .lreturn ∧ t = .long ∧ ∃ z, w = .long z) ∨ (i = .dreturn ∧ t = .double ∧ ∃ z, w = .double z) ∨ (i = .freturn ∧ t = .float ∧ ∃ z, w = .float z) ∨ (i = .areturn ∧ t.isReference = true ∧ w.isRef = true))
    (hd : decode c.code pc = .ok (i, 1)) {Q : Option Value → Heap → Prop} (hc : cells ≤ kc) (hs : slots ≤ ks) (N : Fr n0 locs) (q : Q (some w) T.heap) : own_Ends p e below s n0 kc ks T (mkF m pc Ls (w :: rest)) Q := by
  obtain ⟨fs, hr, hrun, hended, hW, hsame⟩ := X.leave (v := some w) (fun h => by rw [hret] at h; cases h) hlk
  exact ⟨_, _, retOut X hx hret hn hi hd hr, hrun, hended, _, _, rfl, ⟨N, q⟩, ⟨_, rfl⟩, hW, hsame.mono hc hs⟩
theorem own_retI (X : Stand p l e R s m args below meth c T locs cells slots) (hx : p.tables.exec = Jvm.exec) (hlk : meth.locks = false) {pc : Nat} {Ls : Array Slot} {z : Int32} {rest : List Value} (hret : meth.sig.returnType = some .int)
    (hd : decode c.code pc = .ok (.ireturn, 1)) {Q : Option Value → Heap → Prop} (hc : cells ≤ kc) (hs : slots ≤ ks) (N : Fr n0 locs) (q : Q (some (.int z)) T.heap) : own_Ends p e below s n0 kc ks T (mkF m pc Ls (.int z :: rest)) Q :=
  own_retW X hx hlk hret rfl (Or.inl ⟨rfl, Or.inl rfl, z, rfl⟩) hd hc hs N q
theorem own_retJ (X : Stand p l e R s m args below meth c T locs cells slots) (hx : p.tables.exec = Jvm.exec) (hlk : meth.locks = false) {pc : Nat} {Ls : Array Slot} {z : Int64} {rest : List Value} (hret : meth.sig.returnType = some .long)
    (hd : decode c.code pc = .ok (.lreturn, 1)) {Q : Option Value → Heap → Prop} (hc : cells ≤ kc) (hs : slots ≤ ks) (N : Fr n0 locs) (q : Q (some (.long z)) T.heap) : own_Ends p e below s n0 kc ks T (mkF m pc Ls (.long z :: rest)) Q :=
  own_retW X hx hlk hret rfl (Or.inr (Or.inl ⟨rfl, rfl, z, rfl⟩)) hd hc hs N q
theorem own_retA (X : Stand p l e R s m args below meth c T locs cells slots) (hx : p.tables.exec = Jvm.exec) (hlk : meth.locks = false) {pc : Nat} {Ls : Array Slot} {a : Addr} {t : FieldType} {rest : List Value} (hret : meth.sig.returnType = some t) (ht : t.isReference = true) (hn : narrow t (.ref a) = .ref a)
    (hd : decode c.code pc = .ok (.areturn, 1)) {Q : Option Value → Heap → Prop} (hc : cells ≤ kc) (hs : slots ≤ ks) (N : Fr n0 locs) (q : Q (some (.ref a)) T.heap) : own_Ends p e below s n0 kc ks T (mkF m pc Ls (.ref a :: rest)) Q :=
  own_retW X hx hlk hret hn (Or.inr (Or.inr (Or.inr (Or.inr ⟨rfl, ht, rfl⟩)))) hd hc hs N q
theorem own_retN (X : Stand p l e R s m args below meth c T locs cells slots) (hx : p.tables.exec = Jvm.exec) (hlk : meth.locks = false) {pc : Nat} {Ls : Array Slot} {z : Int32} {t : FieldType} {rest : List Value} (hret : meth.sig.returnType = some t) (ht : t = .boolean ∨ t = .byte ∨ t = .char ∨ t = .short)
    (hd : decode c.code pc = .ok (.ireturn, 1)) {Q : Option Value → Heap → Prop} (hc : cells ≤ kc) (hs : slots ≤ ks) (N : Fr n0 locs) (q : Q (some (.int (nar t z))) T.heap) : own_Ends p e below s n0 kc ks T (mkF m pc Ls (.int z :: rest)) Q := by
  obtain ⟨fs, hr, hrun, hended, hW, hsame⟩ := X.leave (v := some (.int (nar t z))) (fun h => by rw [hret] at h; cases h) hlk
  exact ⟨_, _, retN X hx hret ht hd hr, hrun, hended, _, _, rfl, ⟨N, q⟩, ⟨_, rfl⟩, hW, hsame.mono hc hs⟩
theorem own_retV (X : Stand p l e R s m args below meth c T locs cells slots) (hx : p.tables.exec = Jvm.exec) (hlk : meth.locks = false) {pc : Nat} {Ls : Array Slot} (hret : meth.sig.returnType = none)
    (hd : decode c.code pc = .ok (.return_, 1)) {Q : Option Value → Heap → Prop} (hc : cells ≤ kc) (hs : slots ≤ ks) (N : Fr n0 locs) (q : Q none T.heap) : own_Ends p e below s n0 kc ks T (mkF m pc Ls []) Q := by
  obtain ⟨fs, hr, hrun, hended, hW, hsame⟩ := X.leave (v := none) (fun _ => rfl) hlk
  exact ⟨_, _, X.returnOut hx hret hd hr, hrun, hended, _, _, rfl, ⟨N, q⟩, ⟨_, rfl⟩, hW, hsame.mono hc hs⟩
/-- a method's contract: called with as' at the heap h it returns, and Q says what; nothing below n0 is written -/
def own_Con (ws : List Jvm.Cond) (l : Launch) (Z : State) (y : MethodName) (bytes : ByteArray) (maxL : Nat) (ret : Option FieldType) (rm : Room) (n0 : Nat) (as' : Array Value) (h : Heap) (Q : Option Value → Heap → Prop) : Prop :=
  MetFree l y (head1 (Jvm.Cond.code y bytes maxL ret :: ws) rm) (fun a U => a = as' ∧ Z.Warmed39 U.vm ∧ U.heap = h) (fun _ _ _ _ _ => True) (fun _ U o U' => ∃ v L, o = .returned v ∧ (Fr n0 L ∧ Q v U'.heap) ∧ FrameEnd U o U' L rm.cells rm.slots)
theorem own_body {ws : List Jvm.Cond} {y : MethodName} {bytes : ByteArray} {maxL : Nat} {ret : Option FieldType} {rm : Room} {as' : Array Value} {Q : Option Value → Heap → Prop} (hy : plainFor y = true) (fr : MethodId → JFrame) (hfr : ∀ m, entryFrame m as' maxL = fr m)
    (H : ∀ (p : Program) (e : Env) (s : State) (m : MethodId) (below : List Frame) (meth : Method) (c : Code) (s₁ : State), p.tables.exec = Jvm.exec → c.code = bytes → c.maxLocals = maxL → s.vm.findClass y.cls = some m.cls → meth.name = y.name → Z.Warmed39 s.vm → meth.sig.returnType = ret → meth.locks = false →
      Stand p l e rm s m as' below meth c s₁ [] 0 0 → s₁.heap = h → Fr n0 [] → own_Ends p e below s n0 rm.cells rm.slots s₁ (fr m) Q) : own_Con ws l Z y bytes maxL ret rm n0 as' h Q := by
  refine MetFree.of_bodySF hy hisR ?_
  intro p e s m args below meth c s₁ Bd hml0 hP hK
  obtain ⟨rfl, hZ, hh⟩ := hP
  have E := H p e s m below meth c s₁ Bd.exec Bd.bytes hml0 (findClass_of_methodNamed Bd.named) (name_of_methodNamed Bd.named Bd.method).1 hZ Bd.returns Bd.notSynchronized (Stand.of_body Bd) (by rw [← hh, Bd.state]; rfl) (Fr.nil n0)
  rw [← hfr m] at E
  exact E
/-- invokestatic by the callee's contract -/
theorem own_callS (X : Stand p l e R s m args below meth c T locs cells slots) (hx : p.tables.exec = Jvm.exec) (hZ : Z.Warmed39 s.vm) {own : String} {index : Nat} {y : MethodName} {bytes : ByteArray} {maxL : Nat} {ret : Option FieldType}
    (hown : s.vm.findClass own = some m.cls) (w1 : (Jvm.Cond.methodLink own index y).before a0 Z = true) (w2 : (Jvm.Cond.static y).before a0 Z = true) (w3 : (Jvm.Cond.initialized y.cls).before a0 Z = true) (w4 : (Jvm.Cond.code y bytes maxL ret).before a0 Z = true)
    (hy : y.cls ≠ "java/lang/invoke/MethodHandle" ∧ y.cls ≠ "java/lang/invoke/VarHandle") {argsL rest : List Value} {Q : Option Value → Heap → Prop} {rm : Room} (hM : own_Con [] l Z y bytes maxL ret rm n0 argsL.toArray h Q) {W : Nat} (hf : rm.frames + 1 ≤ R.frames) (hl : W + (maxL + 11) + rm.locals ≤ R.locals)
    {g : JFrame} (hg : g.method = m) (hsize : g.locals.size = c.maxLocals) {ps : List FieldType} {r : Option FieldType} (hpd : parseMethodDescriptor y.desc = some ⟨ps, r⟩) (hlen : argsL.length = ps.length) (hstack : g.stack = argsL.reverse ++ rest) (hW : 2 * g.monitorRoom + (rest.map fun v => v.category).sum ≤ W)
    (hd : decode c.code g.pc = .ok (.invokestatic index, 3)) (eT : T.heap = h) (hc : cells + rm.cells ≤ R.cells) (hs : slots + rm.slots ≤ R.slots) (N : Fr n0 locs) :
    ∃ v T' L', Stand p l e R s m args below meth c T' L' (cells + rm.cells) (slots + rm.slots) ∧ Fr n0 L' ∧ Q v T'.heap ∧ ∀ t, Steps p.tables e below (T'.setTop { g with pc := g.pc + 3, stack := v.toList ++ rest }) t → Steps p.tables e below (T.setTop g) t := by
  obtain ⟨v, _, ⟨T', L', k', n'⟩, -, X', ⟨Lc, ⟨hN, hQ⟩, l', y', z'⟩, st⟩ := Jvm.LawKit.callS X hx hown (mvT hZ w1) (mvT hZ w2) (mvT hZ w3) (mvT hZ w4) hy (backOf (Q := fun v h L => Fr n0 L ∧ Q v h) (W := W) hM hZ w4 w3 hf hl) hg hsize (lenOf hpd hlen) hstack hW hd (fun _ _ => ⟨rfl, eT, hc, hs⟩)
  dsimp only [Pt.U, Pt.locs, Pt.cells, Pt.slots] at X' l' y' z' st hQ
  subst l' y' z'
  exact ⟨v, T', _, X', Fr.app N hN, hQ, st⟩
/-- a constructor by its contract -/
theorem own_callI (X : Stand p l e R s m args below meth c T locs cells slots) (hx : p.tables.exec = Jvm.exec) (hZ : Z.Warmed39 s.vm) {own : String} {index : Nat} {y : MethodName} {bytes : ByteArray} {maxL : Nat}
    (hy1 : y.name = "<init>") (hown : s.vm.findClass own = some m.cls) (w1 : (Jvm.Cond.methodLink own index y).before a0 Z = true) (w2 : (Jvm.Cond.instanceMethod y).before a0 Z = true) (w3 : (Jvm.Cond.initialized y.cls).before a0 Z = true) (w4 : (Jvm.Cond.code y bytes maxL none).before a0 Z = true)
    (hy : y.cls ≠ "java/lang/invoke/MethodHandle" ∧ y.cls ≠ "java/lang/invoke/VarHandle") {a : Addr} {argsL rest : List Value} {Q : Option Value → Heap → Prop} {rm : Room} (hM : own_Con [] l Z y bytes maxL none rm n0 (.ref a :: argsL).toArray h Q) {W : Nat} (hf : rm.frames + 1 ≤ R.frames) (hl : W + (maxL + 11) + rm.locals ≤ R.locals)
    {g : JFrame} (hg : g.method = m) (hsize : g.locals.size = c.maxLocals) {ps : List FieldType} {r : Option FieldType} (hpd : parseMethodDescriptor y.desc = some ⟨ps, r⟩) (hlen : argsL.length = ps.length) (hstack : g.stack = argsL.reverse ++ .ref a :: rest) (hW : 2 * g.monitorRoom + (rest.map fun v => v.category).sum ≤ W)
    (hd : decode c.code g.pc = .ok (.invokespecial index, 3)) (eT : T.heap = h) (hc : cells + rm.cells ≤ R.cells) (hs : slots + rm.slots ≤ R.slots) (N : Fr n0 locs) :
    ∃ v T' L', Stand p l e R s m args below meth c T' L' (cells + rm.cells) (slots + rm.slots) ∧ Fr n0 L' ∧ Q v T'.heap ∧ ∀ t, Steps p.tables e below (T'.setTop { g with pc := g.pc + 3, stack := v.toList ++ rest }) t → Steps p.tables e below (T.setTop g) t := by
  obtain ⟨v, _, ⟨T', L', k', n'⟩, -, X', ⟨Lc, ⟨hN, hQ⟩, l', y', z'⟩, st⟩ := X.specialBack hx hy1 hown (mvT hZ w1) (mvT hZ w2) (mvT hZ w4) hy (backOf (Q := fun v h L => Fr n0 L ∧ Q v h) (W := W) hM hZ w4 w3 hf hl) hg hsize (Steps.refl _) (lenOf hpd hlen) hstack hW hd (fun _ _ => ⟨rfl, eT, hc, hs⟩)
  dsimp only [Pt.U, Pt.locs, Pt.cells, Pt.slots] at X' l' y' z' st hQ
  subst l' y' z'
  exact ⟨v, T', _, X', Fr.app N hN, hQ, fun t k => st.trans k⟩
/-- an instance method that its own class declares, by its contract -/
theorem own_callV (X : Stand p l e R s m args below meth c T locs cells slots) (hx : p.tables.exec = Jvm.exec) (hZ : Z.Warmed39 s.vm) {own C : String} {index : Nat} {y : MethodName} {bytes : ByteArray} {maxL : Nat} {ret : Option FieldType}
    (hown : s.vm.findClass own = some m.cls) (w1 : (Jvm.Cond.methodLink own index y).before a0 Z = true) (wd : (Jvm.Cond.declares y).before a0 Z = true) (ws : (Jvm.Cond.selects C y y).before a0 Z = true) (w2 : (Jvm.Cond.instanceMethod y).before a0 Z = true) (w3 : (Jvm.Cond.initialized y.cls).before a0 Z = true) (w4 : (Jvm.Cond.code y bytes maxL ret).before a0 Z = true)
    (hy : y.cls ≠ "java/lang/invoke/MethodHandle" ∧ y.cls ≠ "java/lang/invoke/VarHandle") {a : Addr} {argsL rest : List Value} {Q : Option Value → Heap → Prop} {rm : Room} (hM : own_Con [] l Z y bytes maxL ret rm n0 (.ref a :: argsL).toArray h Q) {W : Nat} (hf : rm.frames + 1 ≤ R.frames) (hl : W + (maxL + 11) + rm.locals ≤ R.locals)
    (E : Exa Z h a C) {g : JFrame} (hg : g.method = m) (hsize : g.locals.size = c.maxLocals) {ps : List FieldType} {r : Option FieldType} (hpd : parseMethodDescriptor y.desc = some ⟨ps, r⟩) (hlen : argsL.length = ps.length) (hstack : g.stack = argsL.reverse ++ .ref a :: rest) (hW : 2 * g.monitorRoom + (rest.map fun v => v.category).sum ≤ W)
    (hd : decode c.code g.pc = .ok (.invokevirtual index, 3)) (eT : T.heap = h) (hc : cells + rm.cells ≤ R.cells) (hs : slots + rm.slots ≤ R.slots) (N : Fr n0 locs) :
    ∃ v T' L', Stand p l e R s m args below meth c T' L' (cells + rm.cells) (slots + rm.slots) ∧ Fr n0 L' ∧ Q v T'.heap ∧ ∀ t, Steps p.tables e below (T'.setTop { g with pc := g.pc + 3, stack := v.toList ++ rest }) t → Steps p.tables e below (T.setTop g) t := by
  obtain ⟨cq, kq, qa, qb, qc⟩ := isOf hZ eT E
  obtain ⟨v, _, ⟨T', L', k', n'⟩, -, X', ⟨Lc, ⟨hN, hQ⟩, l', y', z'⟩, st⟩ := X.virtualBack hx (z := y) hown (mvT hZ w1) (mvT hZ wd) (notFace_of_selects (args := #[]) (mvT hZ ws)) (mvT hZ ws) (mvT hZ w2) hy (backOf (Q := fun v h L => Fr n0 L ∧ Q v h) (W := W) hM hZ w4 w3 hf hl) qa qc hg hsize (Steps.refl _) (lenOf hpd hlen) hstack hW hd (fun _ _ => ⟨rfl, eT, hc, hs⟩)
  dsimp only [Pt.U, Pt.locs, Pt.cells, Pt.slots] at X' l' y' z' st hQ
  subst l' y' z'
  exact ⟨v, T', _, X', Fr.app N hN, hQ, fun t k => st.trans k⟩
/-! arrays by their values -/
theorem own_ldI (X : Stand p l e R s m args below meth c T locs cells slots) (hx : p.tables.exec = Jvm.exec) (hZ : Z.Warmed39 s.vm) (eT : T.heap = h) {a : Addr} {k : ClassId} {n : Int32} {vs : List Value} {d : Value} (V : Arv Z h a k .int n vs d) {j : Int32} (hj : ¬ j < 0 ∧ j < n) {v : Value} (hv : vs.getD j.toNatClampNeg d = v)
    {g : JFrame} (hg : g.method = m) {rest : List Value} (hs : g.stack = .int j :: .ref a :: rest) (hd : decode c.code g.pc = .ok (.iaload, 1)) : ∀ t, Steps p.tables e below (T.setTop { g with pc := g.pc + 1, stack := v :: rest }) t → Steps p.tables e below (T.setTop g) t := by
  obtain ⟨cl, Ar, -, S, M, H, G⟩ := V
  have hin := inb_of S hj
  exact fun t k => X.iaload hx (by rw [eT]; exact Ar.1) (State.isArrayOf_alike hZ.alike Ar.2.1) Ar.2.2 hin (H.at hin hv) hg hs hd t k
theorem own_ldJ (X : Stand p l e R s m args below meth c T locs cells slots) (hx : p.tables.exec = Jvm.exec) (hZ : Z.Warmed39 s.vm) (eT : T.heap = h) {a : Addr} {k : ClassId} {n : Int32} {vs : List Value} {d : Value} (V : Arv Z h a k .long n vs d) {j : Int32} (hj : ¬ j < 0 ∧ j < n) {v : Value} (hv : vs.getD j.toNatClampNeg d = v)
    {g : JFrame} (hg : g.method = m) {rest : List Value} (hs : g.stack = .int j :: .ref a :: rest) (hd : decode c.code g.pc = .ok (.laload, 1)) : ∀ t, Steps p.tables e below (T.setTop { g with pc := g.pc + 1, stack := v :: rest }) t → Steps p.tables e below (T.setTop g) t := by
  obtain ⟨cl, Ar, -, S, M, H, G⟩ := V
  have hin := inb_of S hj
  exact fun t k => X.laload hx (by rw [eT]; exact Ar.1) (State.isArrayOf_alike hZ.alike Ar.2.1) Ar.2.2 hin (H.at hin hv) hg hs hd t k
theorem own_ldC (X : Stand p l e R s m args below meth c T locs cells slots) (hx : p.tables.exec = Jvm.exec) (hZ : Z.Warmed39 s.vm) (eT : T.heap = h) {a : Addr} {k : ClassId} {n : Int32} {vs : List Value} {d : Value} (V : Arv Z h a k .char n vs d) {j : Int32} (hj : ¬ j < 0 ∧ j < n) {v : Value} (hv : vs.getD j.toNatClampNeg d = v)
    {g : JFrame} (hg : g.method = m) {rest : List Value} (hs : g.stack = .int j :: .ref a :: rest) (hd : decode c.code g.pc = .ok (.caload, 1)) : ∀ t, Steps p.tables e below (T.setTop { g with pc := g.pc + 1, stack := v :: rest }) t → Steps p.tables e below (T.setTop g) t := by
  obtain ⟨cl, Ar, -, S, M, H, G⟩ := V
  have hin := inb_of S hj
  exact fun t k => X.caload hx (by rw [eT]; exact Ar.1) (State.isArrayOf_alike hZ.alike Ar.2.1) Ar.2.2 hin (H.at hin hv) hg hs hd t k
theorem own_ldB (X : Stand p l e R s m args below meth c T locs cells slots) (hx : p.tables.exec = Jvm.exec) (hZ : Z.Warmed39 s.vm) (eT : T.heap = h) {a : Addr} {k : ClassId} {n : Int32} {vs : List Value} {d : Value} (V : Arv Z h a k .byte n vs d) {j : Int32} (hj : ¬ j < 0 ∧ j < n) {v : Value} (hv : vs.getD j.toNatClampNeg d = v)
    {g : JFrame} (hg : g.method = m) {rest : List Value} (hs : g.stack = .int j :: .ref a :: rest) (hd : decode c.code g.pc = .ok (.baload, 1)) : ∀ t, Steps p.tables e below (T.setTop { g with pc := g.pc + 1, stack := v :: rest }) t → Steps p.tables e below (T.setTop g) t := by
  obtain ⟨cl, Ar, -, S, M, H, G⟩ := V
  have hin := inb_of S hj
  exact fun t k => X.baloadBytes hx (by rw [eT]; exact Ar.1) (State.isArrayOf_alike hZ.alike Ar.2.1) Ar.2.2 hin (H.at hin hv) hg hs hd t k
theorem own_len (X : Stand p l e R s m args below meth c T locs cells slots) (hx : p.tables.exec = Jvm.exec) (hZ : Z.Warmed39 s.vm) (eT : T.heap = h) {a : Addr} {k : ClassId} {ty : FieldType} {n : Int32} {vs : List Value} {d : Value} (V : Arv Z h a k ty n vs d)
    {g : JFrame} (hg : g.method = m) {rest : List Value} (hs : g.stack = .ref a :: rest) (hd : decode c.code g.pc = .ok (.arraylength, 1)) : ∀ t, Steps p.tables e below (T.setTop { g with pc := g.pc + 1, stack := .int n :: rest }) t → Steps p.tables e below (T.setTop g) t := by
  obtain ⟨cl, Ar, -, S, M, H, G⟩ := V
  intro t k
  refine X.arraylength hx (by rw [eT]; exact Ar.1) (State.isArrayOf_alike hZ.alike Ar.2.1) hg hs hd _ ?_
  rw [len_of S M]
  exact k
theorem own_stI (X : Stand p l e R s m args below meth c T locs cells slots) (hx : p.tables.exec = Jvm.exec) (hZ : Z.Warmed39 s.vm) (eT : T.heap = h) {a : Addr} {k : ClassId} {n : Int32} {vs : List Value} {d : Value} (V : Arv Z h a k .int n vs d) {j : Int32} (hj : ¬ j < 0 ∧ j < n) (i : Nat) (hi : j.toNatClampNeg = i) (hl : i < vs.length) {x : Int32}
    (N : Fr n0 locs) (ga : n0 ≤ a) {g : JFrame} (hg : g.method = m) {rest : List Value} (hs : g.stack = (.int x) :: .int j :: .ref a :: rest) (hd : decode c.code g.pc = .ok (.iastore, 1)) :
    ∃ T' h' L', Stand p l e R s m args below meth c T' L' cells slots ∧ Fr n0 L' ∧ T'.heap = h' ∧ Wr h h' a i (.int x) ∧ Arv Z h' a k .int n (vs.set i (.int x)) d ∧ ∀ t, Steps p.tables e below (T'.setTop { g with pc := g.pc + 1, stack := rest }) t → Steps p.tables e below (T.setTop g) t := by
  obtain ⟨cl, Ar, q, S, M, H, G⟩ := V
  obtain ⟨T', h', X', e', W, st⟩ := stI X hx hZ eT Ar (inb_of S hj) hg hs hd
  have V' := Arv.set Ar q S M H G rfl W i hi hl
  rw [hi] at W
  exact ⟨T', h', _, X', Fr.snoc X' N ga, e', W, V', st⟩
theorem own_stJ (X : Stand p l e R s m args below meth c T locs cells slots) (hx : p.tables.exec = Jvm.exec) (hZ : Z.Warmed39 s.vm) (eT : T.heap = h) {a : Addr} {k : ClassId} {n : Int32} {vs : List Value} {d : Value} (V : Arv Z h a k .long n vs d) {j : Int32} (hj : ¬ j < 0 ∧ j < n) (i : Nat) (hi : j.toNatClampNeg = i) (hl : i < vs.length) {x : Int64}
    (N : Fr n0 locs) (ga : n0 ≤ a) {g : JFrame} (hg : g.method = m) {rest : List Value} (hs : g.stack = (.long x) :: .int j :: .ref a :: rest) (hd : decode c.code g.pc = .ok (.lastore, 1)) :
    ∃ T' h' L', Stand p l e R s m args below meth c T' L' cells slots ∧ Fr n0 L' ∧ T'.heap = h' ∧ Wr h h' a i (.long x) ∧ Arv Z h' a k .long n (vs.set i (.long x)) d ∧ ∀ t, Steps p.tables e below (T'.setTop { g with pc := g.pc + 1, stack := rest }) t → Steps p.tables e below (T.setTop g) t := by
  obtain ⟨cl, Ar, q, S, M, H, G⟩ := V
  obtain ⟨T', h', X', e', W, st⟩ := stJ X hx hZ eT Ar (inb_of S hj) hg hs hd
  have V' := Arv.set Ar q S M H G rfl W i hi hl
  rw [hi] at W
  exact ⟨T', h', _, X', Fr.snoc X' N ga, e', W, V', st⟩
theorem own_stC (X : Stand p l e R s m args below meth c T locs cells slots) (hx : p.tables.exec = Jvm.exec) (hZ : Z.Warmed39 s.vm) (eT : T.heap = h) {a : Addr} {k : ClassId} {n : Int32} {vs : List Value} {d : Value} (V : Arv Z h a k .char n vs d) {j : Int32} (hj : ¬ j < 0 ∧ j < n) (i : Nat) (hi : j.toNatClampNeg = i) (hl : i < vs.length) {x : Int32}
    (N : Fr n0 locs) (ga : n0 ≤ a) {g : JFrame} (hg : g.method = m) {rest : List Value} (hs : g.stack = (.int x) :: .int j :: .ref a :: rest) (hd : decode c.code g.pc = .ok (.castore, 1)) :
    ∃ T' h' L', Stand p l e R s m args below meth c T' L' cells slots ∧ Fr n0 L' ∧ T'.heap = h' ∧ Wr h h' a i (.int (nar .char x)) ∧ Arv Z h' a k .char n (vs.set i (.int (nar .char x))) d ∧ ∀ t, Steps p.tables e below (T'.setTop { g with pc := g.pc + 1, stack := rest }) t → Steps p.tables e below (T.setTop g) t := by
  obtain ⟨cl, Ar, q, S, M, H, G⟩ := V
  obtain ⟨T', h', X', e', W, st⟩ := stC X hx hZ eT Ar (inb_of S hj) hg hs hd
  have V' := Arv.set Ar q S M H G (fits_nar_char _) W i hi hl
  rw [hi] at W
  exact ⟨T', h', _, X', Fr.snoc X' N ga, e', W, V', st⟩
theorem own_stB (X : Stand p l e R s m args below meth c T locs cells slots) (hx : p.tables.exec = Jvm.exec) (hZ : Z.Warmed39 s.vm) (eT : T.heap = h) {a : Addr} {k : ClassId} {n : Int32} {vs : List Value} {d : Value} (V : Arv Z h a k .byte n vs d) {j : Int32} (hj : ¬ j < 0 ∧ j < n) (i : Nat) (hi : j.toNatClampNeg = i) (hl : i < vs.length) {x : Int32}
    (N : Fr n0 locs) (ga : n0 ≤ a) {g : JFrame} (hg : g.method = m) {rest : List Value} (hs : g.stack = (.int x) :: .int j :: .ref a :: rest) (hd : decode c.code g.pc = .ok (.bastore, 1)) :
    ∃ T' h' L', Stand p l e R s m args below meth c T' L' cells slots ∧ Fr n0 L' ∧ T'.heap = h' ∧ Wr h h' a i (.int (nar .byte x)) ∧ Arv Z h' a k .byte n (vs.set i (.int (nar .byte x))) d ∧ ∀ t, Steps p.tables e below (T'.setTop { g with pc := g.pc + 1, stack := rest }) t → Steps p.tables e below (T.setTop g) t := by
  obtain ⟨cl, Ar, q, S, M, H, G⟩ := V
  obtain ⟨T', h', X', e', W, st⟩ := stB X hx hZ eT Ar (inb_of S hj) hg hs hd
  have V' := Arv.set Ar q S M H G (fits_nar_byte _) W i hi hl
  rw [hi] at W
  exact ⟨T', h', _, X', Fr.snoc X' N ga, e', W, V', st⟩
theorem own_new (X : Stand p l e R s m args below meth c T locs cells slots) (hx : p.tables.exec = Jvm.exec) (hZ : Z.Warmed39 s.vm) {aty : ArrayType} (w : (Jvm.Cond.arrayClass (newarray.typeOf aty)).before a0 Z = true) (eT : T.heap = h) {g : JFrame} (hg : g.method = m) (hd : decode c.code g.pc = .ok (.newarray aty, 2)) {n : Int32} {rest : List Value} (hs : g.stack = .int n :: rest)
    (hn : ¬ n < 0) {cap : Nat} (hcap : n.toNatClampNeg ≤ cap) (hb : cap * 8 ≤ 536870912) (hc : cells + 1 ≤ R.cells) (hl : slots + cap ≤ R.slots) :
    ∃ T' h' k a, a = h.size ∧ Stand p l e R s m args below meth c T' locs (cells + 1) (slots + cap) ∧ T'.heap = h' ∧ Ext h h' ∧ Arv Z h' a k (newarray.typeOf aty) n [] (defaultValue (newarray.typeOf aty)) ∧
      ∀ t, Steps p.tables e below (T'.setTop { g with pc := g.pc + 2, stack := .ref a :: rest }) t → Steps p.tables e below (T.setTop g) t := by
  obtain ⟨T', h', k, X', e', E, A, st⟩ := newP X hx hZ w eT hg hd hs hn hcap hb hc hl
  exact ⟨T', h', k, _, rfl, X', e', E, Arv.new A hn, st⟩
/-- what a method that only reads leaves -/
def own_P (z : Value) (h0 : Heap) : Option Value → Heap → Prop := fun v h => v = some z ∧ h = h0
end Own
def own_Q2 (h0 : Heap) : Option Value → Heap → Prop := fun v h => v = none ∧ h = h0
abbrev own_r2 : Room := { frames := 1, cells := 0, slots := 0, locals := 12 }
theorem d2_0 : decode jdk_30_method_1_code 0 = .ok (.aload_n 0, 1) := by decide +kernel
theorem d2_1 : decode jdk_30_method_1_code 1 = .ok (.invokespecial 1, 3) := by decide +kernel
theorem d2_4 : decode jdk_30_method_1_code 4 = .ok (.return_, 1) := by decide +kernel
theorem ef_2 (m : MethodId) (a : Addr) : entryFrame m #[(.ref a)] 1 = mkF m 0 #[.val (.ref a)] [] := by first | (simp [entryFrame, mkF, argsToLocals, Value.category]; done) | rfl
set_option maxRecDepth 65536 in
set_option maxHeartbeats 40000000 in
theorem rm2 (l : Launch) (Z : State) (a0 : Array Value) (hw : ∀ d ∈ tables_1, d.before a0 Z = true) (a : Addr) (h0 : Heap) (n0 : Nat) : own_Con [] l Z (⟨"java/lang/Record", "<init>", "()V"⟩ : MethodName) jdk_30_method_1_code 1 none own_r2 n0 #[(.ref a)] h0 (own_Q2 h0) := by
  refine own_body (plainFor_of_name (by first | (simp [plainName, overriddenIn]; done) | decide +kernel)) (fun m => mkF m 0 #[.val (.ref a)] []) (fun m => ef_2 m a) ?_
  intro p e s m below meth c s₁ hx hby hml hown hnm hZ hret hlk X0 e0 N0
  refine own_go (T' := s₁) (g' := (mkF m 1 #[.val (.ref a)] [(.ref a)])) (fun t k => ?_) ?_
  · show Steps p.tables e below (s₁.setTop (mkF m 0 #[.val (.ref a)] [])) t
    refine XS.aloadN X0.here hx rfl (hb hby d2_0) rfl rfl ?_
    show Steps p.tables e below (s₁.setTop (mkF m 1 #[.val (.ref a)] [(.ref a)])) _
    exact k
  obtain ⟨T1, X1, e1, st1⟩ := initO X0 hx hZ hown (hw _ (List.mem_of_getElem? (i := 11) rfl)) (hw _ (List.mem_of_getElem? (i := 12) rfl)) (hw _ (List.mem_of_getElem? (i := 13) rfl)) e0 (g := (mkF m 1 #[.val (.ref a)] [(.ref a)])) rfl (by rw [hml]; rfl) rfl (hb hby d2_1) (by decide) (W := 0) (by show 2 * 0 + _ ≤ _; exact Nat.le_of_eq rfl) (by decide)
  refine own_go (T' := T1) (g' := (mkF m 4 #[.val (.ref a)] [])) st1 ?_
  exact own_retV X1 hx hlk hret (hb hby d2_4) (by decide) (by decide) N0 ⟨rfl, e1⟩
def own_Q1 (Z : State) (a : Addr) (p0 p1 p2 : Int32) : Option Value → Heap → Prop := fun v h => v = none ∧ Exa Z h a "org/tarndb/engine/Scope$Reach" ∧ Fld Z h a "org/tarndb/engine/Scope$Reach" "first" "I" (.int p0) ∧ Fld Z h a "org/tarndb/engine/Scope$Reach" "last" "I" (.int p1) ∧ Fld Z h a "org/tarndb/engine/Scope$Reach" "outer" "Z" (.int (nar .boolean p2))
abbrev own_r1 : Room := { frames := 2, cells := 0, slots := 0, locals := 24 }
theorem d1_0 : decode prog_97_method_1_code 0 = .ok (.aload_n 0, 1) := by decide +kernel
theorem d1_1 : decode prog_97_method_1_code 1 = .ok (.invokespecial 1, 3) := by decide +kernel
theorem pd_0 : parseMethodDescriptor "()V" = some ⟨[], none⟩ := by decide +kernel
theorem d1_4 : decode prog_97_method_1_code 4 = .ok (.aload_n 0, 1) := by decide +kernel
theorem d1_5 : decode prog_97_method_1_code 5 = .ok (.iload_n 1, 1) := by decide +kernel
theorem d1_6 : decode prog_97_method_1_code 6 = .ok (.putfield 7, 3) := by decide +kernel
theorem d1_9 : decode prog_97_method_1_code 9 = .ok (.aload_n 0, 1) := by decide +kernel
theorem d1_10 : decode prog_97_method_1_code 10 = .ok (.iload_n 2, 1) := by decide +kernel
theorem d1_11 : decode prog_97_method_1_code 11 = .ok (.putfield 13, 3) := by decide +kernel
theorem d1_14 : decode prog_97_method_1_code 14 = .ok (.aload_n 0, 1) := by decide +kernel
theorem d1_15 : decode prog_97_method_1_code 15 = .ok (.iload_n 3, 1) := by decide +kernel
theorem d1_16 : decode prog_97_method_1_code 16 = .ok (.putfield 16, 3) := by decide +kernel
theorem d1_19 : decode prog_97_method_1_code 19 = .ok (.return_, 1) := by decide +kernel
theorem ef_1 (m : MethodId) (a : Addr) (p0 : Int32) (p1 : Int32) (p2 : Int32) : entryFrame m #[(.ref a), (.int p0), (.int p1), (.int p2)] 4 = mkF m 0 #[.val (.ref a), .val (.int p0), .val (.int p1), .val (.int p2)] [] := by first | (simp [entryFrame, mkF, argsToLocals, Value.category]; done) | rfl
set_option maxRecDepth 65536 in
set_option maxHeartbeats 40000000 in
theorem rm1 (l : Launch) (Z : State) (a0 : Array Value) (hw : ∀ d ∈ tables_1, d.before a0 Z = true) (a : Addr) (p0 p1 p2 : Int32) (h0 : Heap) (n0 : Nat) (Z0 : n0 ≤ h0.size) (ga_a : n0 ≤ a) (E0 : Exa Z h0 a "org/tarndb/engine/Scope$Reach") (F0_first : Fld Z h0 a "org/tarndb/engine/Scope$Reach" "first" "I" (.int (0 : Int32))) (F0_last : Fld Z h0 a "org/tarndb/engine/Scope$Reach" "last" "I" (.int (0 : Int32))) (F0_outer : Fld Z h0 a "org/tarndb/engine/Scope$Reach" "outer" "Z" (.int (0 : Int32))) : own_Con [] l Z (⟨"org/tarndb/engine/Scope$Reach", "<init>", "(IIZ)V"⟩ : MethodName) prog_97_method_1_code 4 none own_r1 n0 #[(.ref a), (.int p0), (.int p1), (.int p2)] h0 (own_Q1 Z a p0 p1 p2) := by
  refine own_body (plainFor_of_name (by first | (simp [plainName, overriddenIn]; done) | decide +kernel)) (fun m => mkF m 0 #[.val (.ref a), .val (.int p0), .val (.int p1), .val (.int p2)] []) (fun m => ef_1 m a p0 p1 p2) ?_
  intro p e s m below meth c s₁ hx hby hml hown hnm hZ hret hlk X0 e0 N0
  refine own_go (T' := s₁) (g' := (mkF m 1 #[.val (.ref a), .val (.int p0), .val (.int p1), .val (.int p2)] [(.ref a)])) (fun t k => ?_) ?_
  · show Steps p.tables e below (s₁.setTop (mkF m 0 #[.val (.ref a), .val (.int p0), .val (.int p1), .val (.int p2)] [])) t
    refine XS.aloadN X0.here hx rfl (hb hby d1_0) rfl rfl ?_
    show Steps p.tables e below (s₁.setTop (mkF m 1 #[.val (.ref a), .val (.int p0), .val (.int p1), .val (.int p2)] [(.ref a)])) _
    exact k
  obtain ⟨_, T1, L1, X1, N1, ⟨rfl, e1⟩, st1⟩ := own_callI X0 hx hZ rfl hown (hw _ (List.mem_of_getElem? (i := 6) rfl)) (hw _ (List.mem_of_getElem? (i := 7) rfl)) (hw _ (List.mem_of_getElem? (i := 9) rfl)) (hw _ (List.mem_of_getElem? (i := 10) rfl)) (by decide) (a := a) (argsL := []) (rest := []) (rm2 l Z a0 hw a h0 n0) (W := 0) (by decide) (by decide) (g := (mkF m 1 #[.val (.ref a), .val (.int p0), .val (.int p1), .val (.int p2)] [(.ref a)])) rfl (by rw [hml]; rfl) pd_0 rfl rfl (by show 2 * 0 + _ ≤ _; exact Nat.le_of_eq rfl) (hb hby d1_1) e0 (by decide) (by decide) N0
  refine own_go (T' := T1) (g' := (mkF m 4 #[.val (.ref a), .val (.int p0), .val (.int p1), .val (.int p2)] [])) st1 ?_
  refine own_go (T' := T1) (g' := (mkF m 6 #[.val (.ref a), .val (.int p0), .val (.int p1), .val (.int p2)] [(.int p0), (.ref a)])) (fun t k => ?_) ?_
  · show Steps p.tables e below (T1.setTop (mkF m 4 #[.val (.ref a), .val (.int p0), .val (.int p1), .val (.int p2)] [])) t
    refine XS.aloadN X1.here hx rfl (hb hby d1_4) rfl rfl ?_
    show Steps p.tables e below (T1.setTop (mkF m 5 #[.val (.ref a), .val (.int p0), .val (.int p1), .val (.int p2)] [(.ref a)])) _
    refine XS.iloadN X1.here hx rfl (hb hby d1_5) rfl ?_
    show Steps p.tables e below (T1.setTop (mkF m 6 #[.val (.ref a), .val (.int p0), .val (.int p1), .val (.int p2)] [(.int p0), (.ref a)])) _
    exact k
  obtain ⟨T2, h2, X2, e2, W2, st2⟩ := putF X1 hx hZ hown (host := "") (Or.inl (hw _ (List.mem_of_getElem? (i := 14) rfl))) Via.refl e1 F0_first E0 (Or.inr ⟨(hw _ (List.mem_of_getElem? (i := 15) rfl)), rfl, hnm⟩) (hw _ (List.mem_of_getElem? (i := 1) rfl)) (ty := .int) (by decide) rfl rfl (g := (mkF m 6 #[.val (.ref a), .val (.int p0), .val (.int p1), .val (.int p2)] [(.int p0), (.ref a)])) rfl rfl (hb hby d1_6)
  have E_a_2 := Exa.wr W2 E0
  have F_a_last_2 := Fld.other W2 F0_last (Or.inr (slot_ne (Or.inr (hw _ (List.mem_of_getElem? (i := 17) rfl))) (Or.inr (hw _ (List.mem_of_getElem? (i := 15) rfl))) (by decide) (t := .int) (t' := .int) (by decide) (by decide)))
  have F_a_outer_2 := Fld.other W2 F0_outer (Or.inr (slot_ne (Or.inr (hw _ (List.mem_of_getElem? (i := 19) rfl))) (Or.inr (hw _ (List.mem_of_getElem? (i := 15) rfl))) (by decide) (t := .boolean) (t' := .int) (by decide) (by decide)))
  have F_a_first_2 : Fld Z h2 a "org/tarndb/engine/Scope$Reach" "first" "I" (.int p0) := Fld.same W2 F0_first
  have N2 := Fr.snoc X2 N1 ga_a
  have sz_2 := Nat.le_trans Z0 (Nat.le_of_eq (Wr.size W2).symm)
  refine own_go (T' := T2) (g' := (mkF m 9 #[.val (.ref a), .val (.int p0), .val (.int p1), .val (.int p2)] [])) st2 ?_
  refine own_go (T' := T2) (g' := (mkF m 11 #[.val (.ref a), .val (.int p0), .val (.int p1), .val (.int p2)] [(.int p1), (.ref a)])) (fun t k => ?_) ?_
  · show Steps p.tables e below (T2.setTop (mkF m 9 #[.val (.ref a), .val (.int p0), .val (.int p1), .val (.int p2)] [])) t
    refine XS.aloadN X2.here hx rfl (hb hby d1_9) rfl rfl ?_
    show Steps p.tables e below (T2.setTop (mkF m 10 #[.val (.ref a), .val (.int p0), .val (.int p1), .val (.int p2)] [(.ref a)])) _
    refine XS.iloadN X2.here hx rfl (hb hby d1_10) rfl ?_
    show Steps p.tables e below (T2.setTop (mkF m 11 #[.val (.ref a), .val (.int p0), .val (.int p1), .val (.int p2)] [(.int p1), (.ref a)])) _
    exact k
  obtain ⟨T3, h3, X3, e3, W3, st3⟩ := putF X2 hx hZ hown (host := "") (Or.inl (hw _ (List.mem_of_getElem? (i := 16) rfl))) Via.refl e2 F_a_last_2 E_a_2 (Or.inr ⟨(hw _ (List.mem_of_getElem? (i := 17) rfl)), rfl, hnm⟩) (hw _ (List.mem_of_getElem? (i := 1) rfl)) (ty := .int) (by decide) rfl rfl (g := (mkF m 11 #[.val (.ref a), .val (.int p0), .val (.int p1), .val (.int p2)] [(.int p1), (.ref a)])) rfl rfl (hb hby d1_11)
  have E_a_3 := Exa.wr W3 E_a_2
  have F_a_first_3 := Fld.other W3 F_a_first_2 (Or.inr (slot_ne (Or.inr (hw _ (List.mem_of_getElem? (i := 15) rfl))) (Or.inr (hw _ (List.mem_of_getElem? (i := 17) rfl))) (by decide) (t := .int) (t' := .int) (by decide) (by decide)))
  have F_a_outer_3 := Fld.other W3 F_a_outer_2 (Or.inr (slot_ne (Or.inr (hw _ (List.mem_of_getElem? (i := 19) rfl))) (Or.inr (hw _ (List.mem_of_getElem? (i := 17) rfl))) (by decide) (t := .boolean) (t' := .int) (by decide) (by decide)))
  have F_a_last_3 : Fld Z h3 a "org/tarndb/engine/Scope$Reach" "last" "I" (.int p1) := Fld.same W3 F_a_last_2
  have N3 := Fr.snoc X3 N2 ga_a
  have sz_3 := Nat.le_trans sz_2 (Nat.le_of_eq (Wr.size W3).symm)
  refine own_go (T' := T3) (g' := (mkF m 14 #[.val (.ref a), .val (.int p0), .val (.int p1), .val (.int p2)] [])) st3 ?_
  refine own_go (T' := T3) (g' := (mkF m 16 #[.val (.ref a), .val (.int p0), .val (.int p1), .val (.int p2)] [(.int p2), (.ref a)])) (fun t k => ?_) ?_
  · show Steps p.tables e below (T3.setTop (mkF m 14 #[.val (.ref a), .val (.int p0), .val (.int p1), .val (.int p2)] [])) t
    refine XS.aloadN X3.here hx rfl (hb hby d1_14) rfl rfl ?_
    show Steps p.tables e below (T3.setTop (mkF m 15 #[.val (.ref a), .val (.int p0), .val (.int p1), .val (.int p2)] [(.ref a)])) _
    refine XS.iloadN X3.here hx rfl (hb hby d1_15) rfl ?_
    show Steps p.tables e below (T3.setTop (mkF m 16 #[.val (.ref a), .val (.int p0), .val (.int p1), .val (.int p2)] [(.int p2), (.ref a)])) _
    exact k
  obtain ⟨T4, h4, X4, e4, W4, st4⟩ := putFN X3 hx hZ hown (hw _ (List.mem_of_getElem? (i := 18) rfl)) Via.refl e3 F_a_outer_3 E_a_3 (Or.inr ⟨(hw _ (List.mem_of_getElem? (i := 19) rfl)), rfl, hnm⟩) (hw _ (List.mem_of_getElem? (i := 1) rfl)) (ty := .boolean) (v' := .int (nar .boolean p2)) (by decide) rfl (fits_nar_bool _) (g := (mkF m 16 #[.val (.ref a), .val (.int p0), .val (.int p1), .val (.int p2)] [(.int p2), (.ref a)])) rfl rfl (hb hby d1_16)
  have E_a_4 := Exa.wr W4 E_a_3
  have F_a_first_4 := Fld.other W4 F_a_first_3 (Or.inr (slot_ne (Or.inr (hw _ (List.mem_of_getElem? (i := 15) rfl))) (Or.inr (hw _ (List.mem_of_getElem? (i := 19) rfl))) (by decide) (t := .int) (t' := .boolean) (by decide) (by decide)))
  have F_a_last_4 := Fld.other W4 F_a_last_3 (Or.inr (slot_ne (Or.inr (hw _ (List.mem_of_getElem? (i := 17) rfl))) (Or.inr (hw _ (List.mem_of_getElem? (i := 19) rfl))) (by decide) (t := .int) (t' := .boolean) (by decide) (by decide)))
  have F_a_outer_4 : Fld Z h4 a "org/tarndb/engine/Scope$Reach" "outer" "Z" (.int (nar .boolean p2)) := Fld.same W4 F_a_outer_3
  have N4 := Fr.snoc X4 N3 ga_a
  have sz_4 := Nat.le_trans sz_3 (Nat.le_of_eq (Wr.size W4).symm)
  refine own_go (T' := T4) (g' := (mkF m 19 #[.val (.ref a), .val (.int p0), .val (.int p1), .val (.int p2)] [])) st4 ?_
  exact own_retV X4 hx hlk hret (hb hby d1_19) (by decide) (by decide) N4 (by rw [e4]; exact ⟨rfl, E_a_4, F_a_first_4, F_a_last_4, F_a_outer_4⟩)
def own_only (w1 w2 w3 p0 : Int32) : Int32 := if w1 = p0 then if w2 = p0 then if w3 = 0 then 1 else 0 else 0 else 0
abbrev own_r4 : Room := { frames := 0, cells := 0, slots := 0, locals := 0 }
theorem d4_0 : decode prog_97_method_3_code 0 = .ok (.aload_n 0, 1) := by decide +kernel
theorem d4_1 : decode prog_97_method_3_code 1 = .ok (.getfield 7, 3) := by decide +kernel
theorem d4_4 : decode prog_97_method_3_code 4 = .ok (.iload_n 1, 1) := by decide +kernel
theorem d4_5 : decode prog_97_method_3_code 5 = .ok (.if_icmp .ne 22, 3) := by decide +kernel
theorem d4_8 : decode prog_97_method_3_code 8 = .ok (.aload_n 0, 1) := by decide +kernel
theorem d4_9 : decode prog_97_method_3_code 9 = .ok (.getfield 13, 3) := by decide +kernel
theorem d4_12 : decode prog_97_method_3_code 12 = .ok (.iload_n 1, 1) := by decide +kernel
theorem d4_13 : decode prog_97_method_3_code 13 = .ok (.if_icmp .ne 14, 3) := by decide +kernel
theorem d4_16 : decode prog_97_method_3_code 16 = .ok (.aload_n 0, 1) := by decide +kernel
theorem d4_17 : decode prog_97_method_3_code 17 = .ok (.getfield 16, 3) := by decide +kernel
theorem d4_20 : decode prog_97_method_3_code 20 = .ok (.ifCond .ne 7, 3) := by decide +kernel
theorem d4_23 : decode prog_97_method_3_code 23 = .ok (.iconst 1, 1) := by decide +kernel
theorem d4_24 : decode prog_97_method_3_code 24 = .ok (.goto 4, 3) := by decide +kernel
theorem d4_28 : decode prog_97_method_3_code 28 = .ok (.ireturn, 1) := by decide +kernel
theorem d4_27 : decode prog_97_method_3_code 27 = .ok (.iconst 0, 1) := by decide +kernel
theorem ef_4 (m : MethodId) (a : Addr) (p0 : Int32) : entryFrame m #[(.ref a), (.int p0)] 2 = mkF m 0 #[.val (.ref a), .val (.int p0)] [] := by first | (simp [entryFrame, mkF, argsToLocals, Value.category]; done) | rfl
set_option maxRecDepth 65536 in
set_option maxHeartbeats 40000000 in
theorem rm4 (l : Launch) (Z : State) (a0 : Array Value) (hw : ∀ d ∈ tables_1, d.before a0 Z = true) (a : Addr) (p0 w1 w2 w3 : Int32) (h0 : Heap) (n0 : Nat) (E0 : Exa Z h0 a "org/tarndb/engine/Scope$Reach") (F0_first : Fld Z h0 a "org/tarndb/engine/Scope$Reach" "first" "I" (.int w1)) (F0_last : Fld Z h0 a "org/tarndb/engine/Scope$Reach" "last" "I" (.int w2)) (F0_outer : Fld Z h0 a "org/tarndb/engine/Scope$Reach" "outer" "Z" (.int w3)) : own_Con [] l Z (⟨"org/tarndb/engine/Scope$Reach", "only", "(I)Z"⟩ : MethodName) prog_97_method_3_code 2 (some .boolean) own_r4 n0 #[(.ref a), (.int p0)] h0 (own_P (.int (own_only w1 w2 w3 p0)) h0) := by
  refine own_body (plainFor_of_name (by first | (simp [plainName, overriddenIn]; done) | decide +kernel)) (fun m => mkF m 0 #[.val (.ref a), .val (.int p0)] []) (fun m => ef_4 m a p0) ?_
  intro p e s m below meth c s₁ hx hby hml hown hnm hZ hret hlk X0 e0 N0
  refine own_go (T' := s₁) (g' := (mkF m 1 #[.val (.ref a), .val (.int p0)] [(.ref a)])) (fun t k => ?_) ?_
  · show Steps p.tables e below (s₁.setTop (mkF m 0 #[.val (.ref a), .val (.int p0)] [])) t
    refine XS.aloadN X0.here hx rfl (hb hby d4_0) rfl rfl ?_
    show Steps p.tables e below (s₁.setTop (mkF m 1 #[.val (.ref a), .val (.int p0)] [(.ref a)])) _
    exact k
  obtain ⟨T1, X1, e1, st1⟩ := getF X0 hx hZ hown (host := "") (Or.inl (hw _ (List.mem_of_getElem? (i := 14) rfl))) Via.refl e0 F0_first (g := (mkF m 1 #[.val (.ref a), .val (.int p0)] [(.ref a)])) rfl rfl (hb hby d4_1)
  refine own_go (T' := T1) (g' := (mkF m 4 #[.val (.ref a), .val (.int p0)] [(.int w1)])) st1 ?_
  refine own_go (T' := T1) (g' := (mkF m 5 #[.val (.ref a), .val (.int p0)] [(.int p0), (.int w1)])) (fun t k => ?_) ?_
  · show Steps p.tables e below (T1.setTop (mkF m 4 #[.val (.ref a), .val (.int p0)] [(.int w1)])) t
    refine XS.iloadN X1.here hx rfl (hb hby d4_4) rfl ?_
    show Steps p.tables e below (T1.setTop (mkF m 5 #[.val (.ref a), .val (.int p0)] [(.int p0), (.int w1)])) _
    exact k
  by_cases hc5_2 : w1 = p0
  · refine own_go (T' := T1) (g' := (mkF m 8 #[.val (.ref a), .val (.int p0)] [])) (fun t k => ?_) ?_
    · refine XS.icmpNo X1.here hx rfl (hb hby d4_5) rfl (teq hc5_2).2 ?_
      exact k
    refine own_go (T' := T1) (g' := (mkF m 9 #[.val (.ref a), .val (.int p0)] [(.ref a)])) (fun t k => ?_) ?_
    · show Steps p.tables e below (T1.setTop (mkF m 8 #[.val (.ref a), .val (.int p0)] [])) t
      refine XS.aloadN X1.here hx rfl (hb hby d4_8) rfl rfl ?_
      show Steps p.tables e below (T1.setTop (mkF m 9 #[.val (.ref a), .val (.int p0)] [(.ref a)])) _
      exact k
    obtain ⟨T3, X3, e3, st3⟩ := getF X1 hx hZ hown (host := "") (Or.inl (hw _ (List.mem_of_getElem? (i := 16) rfl))) Via.refl e1 F0_last (g := (mkF m 9 #[.val (.ref a), .val (.int p0)] [(.ref a)])) rfl rfl (hb hby d4_9)
    refine own_go (T' := T3) (g' := (mkF m 12 #[.val (.ref a), .val (.int p0)] [(.int w2)])) st3 ?_
    refine own_go (T' := T3) (g' := (mkF m 13 #[.val (.ref a), .val (.int p0)] [(.int p0), (.int w2)])) (fun t k => ?_) ?_
    · show Steps p.tables e below (T3.setTop (mkF m 12 #[.val (.ref a), .val (.int p0)] [(.int w2)])) t
      refine XS.iloadN X3.here hx rfl (hb hby d4_12) rfl ?_
      show Steps p.tables e below (T3.setTop (mkF m 13 #[.val (.ref a), .val (.int p0)] [(.int p0), (.int w2)])) _
      exact k
    by_cases hc13_4 : w2 = p0
    · refine own_go (T' := T3) (g' := (mkF m 16 #[.val (.ref a), .val (.int p0)] [])) (fun t k => ?_) ?_
      · refine XS.icmpNo X3.here hx rfl (hb hby d4_13) rfl (teq hc13_4).2 ?_
        exact k
      refine own_go (T' := T3) (g' := (mkF m 17 #[.val (.ref a), .val (.int p0)] [(.ref a)])) (fun t k => ?_) ?_
      · show Steps p.tables e below (T3.setTop (mkF m 16 #[.val (.ref a), .val (.int p0)] [])) t
        refine XS.aloadN X3.here hx rfl (hb hby d4_16) rfl rfl ?_
        show Steps p.tables e below (T3.setTop (mkF m 17 #[.val (.ref a), .val (.int p0)] [(.ref a)])) _
        exact k
      obtain ⟨T5, X5, e5, st5⟩ := getF X3 hx hZ hown (host := "") (Or.inl (hw _ (List.mem_of_getElem? (i := 18) rfl))) Via.refl e3 F0_outer (g := (mkF m 17 #[.val (.ref a), .val (.int p0)] [(.ref a)])) rfl rfl (hb hby d4_17)
      refine own_go (T' := T5) (g' := (mkF m 20 #[.val (.ref a), .val (.int p0)] [(.int w3)])) st5 ?_
      by_cases hc20_6 : w3 = (0 : Int32)
      · refine own_go (T' := T5) (g' := (mkF m 23 #[.val (.ref a), .val (.int p0)] [])) (fun t k => ?_) ?_
        · refine XS.ifNo X5.here hx rfl (hb hby d4_20) rfl ((if0 _ _).trans (teq hc20_6).2) ?_
          exact k
        refine own_go (T' := T5) (g' := (mkF m 28 #[.val (.ref a), .val (.int p0)] [(.int (1 : Int32))])) (fun t k => ?_) ?_
        · show Steps p.tables e below (T5.setTop (mkF m 23 #[.val (.ref a), .val (.int p0)] [])) t
          refine XS.iconst X5.here hx rfl (hb hby d4_23) ?_
          show Steps p.tables e below (T5.setTop (mkF m 24 #[.val (.ref a), .val (.int p0)] [(.int (1 : Int32))])) _
          refine XS.goto X5.here hx rfl (pc0 := 24) (pc' := 28) rfl (hb hby d4_24) (by decide) (by decide) ?_
          show Steps p.tables e below (T5.setTop (mkF m 28 #[.val (.ref a), .val (.int p0)] [(.int (1 : Int32))])) _
          exact k
        exact own_retN X5 hx hlk hret (by simp) (hb hby d4_28) (by decide) (by decide) N0 ⟨by unfold own_only; rw [if_pos hc5_2, if_pos hc13_4, if_pos hc20_6]; rfl, e5⟩
      · refine own_go (T' := T5) (g' := (mkF m 27 #[.val (.ref a), .val (.int p0)] [])) (fun t k => ?_) ?_
        · refine XS.ifYes X5.here hx rfl (pc0 := 20) (pc' := 27) rfl (hb hby d4_20) rfl ((if0 _ _).trans (feq hc20_6).2) (by decide) (by decide) ?_
          exact k
        refine own_go (T' := T5) (g' := (mkF m 28 #[.val (.ref a), .val (.int p0)] [(.int (0 : Int32))])) (fun t k => ?_) ?_
        · show Steps p.tables e below (T5.setTop (mkF m 27 #[.val (.ref a), .val (.int p0)] [])) t
          refine XS.iconst X5.here hx rfl (hb hby d4_27) ?_
          show Steps p.tables e below (T5.setTop (mkF m 28 #[.val (.ref a), .val (.int p0)] [(.int (0 : Int32))])) _
          exact k
        exact own_retN X5 hx hlk hret (by simp) (hb hby d4_28) (by decide) (by decide) N0 ⟨by unfold own_only; rw [if_pos hc5_2, if_pos hc13_4, if_neg hc20_6]; rfl, e5⟩
    · refine own_go (T' := T3) (g' := (mkF m 27 #[.val (.ref a), .val (.int p0)] [])) (fun t k => ?_) ?_
      · refine XS.icmpYes X3.here hx rfl (pc0 := 13) (pc' := 27) rfl (hb hby d4_13) rfl (feq hc13_4).2 (by decide) (by decide) ?_
        exact k
      refine own_go (T' := T3) (g' := (mkF m 28 #[.val (.ref a), .val (.int p0)] [(.int (0 : Int32))])) (fun t k => ?_) ?_
      · show Steps p.tables e below (T3.setTop (mkF m 27 #[.val (.ref a), .val (.int p0)] [])) t
        refine XS.iconst X3.here hx rfl (hb hby d4_27) ?_
        show Steps p.tables e below (T3.setTop (mkF m 28 #[.val (.ref a), .val (.int p0)] [(.int (0 : Int32))])) _
        exact k
      exact own_retN X3 hx hlk hret (by simp) (hb hby d4_28) (by decide) (by decide) N0 ⟨by unfold own_only; rw [if_pos hc5_2, if_neg hc13_4]; rfl, e3⟩
  · refine own_go (T' := T1) (g' := (mkF m 27 #[.val (.ref a), .val (.int p0)] [])) (fun t k => ?_) ?_
    · refine XS.icmpYes X1.here hx rfl (pc0 := 5) (pc' := 27) rfl (hb hby d4_5) rfl (feq hc5_2).2 (by decide) (by decide) ?_
      exact k
    refine own_go (T' := T1) (g' := (mkF m 28 #[.val (.ref a), .val (.int p0)] [(.int (0 : Int32))])) (fun t k => ?_) ?_
    · show Steps p.tables e below (T1.setTop (mkF m 27 #[.val (.ref a), .val (.int p0)] [])) t
      refine XS.iconst X1.here hx rfl (hb hby d4_27) ?_
      show Steps p.tables e below (T1.setTop (mkF m 28 #[.val (.ref a), .val (.int p0)] [(.int (0 : Int32))])) _
      exact k
    exact own_retN X1 hx hlk hret (by simp) (hb hby d4_28) (by decide) (by decide) N0 ⟨by unfold own_only; rw [if_neg hc5_2]; rfl, e1⟩
theorem own_l1 (p0 p1 p2 p3 t1 t2 o f l fh lh ex : Int32) (h1 : t1 = if (p3 &&& (1 : Int32)) = (0 : Int32) then (0 : Int32) else (1 : Int32)) (h2 : t2 = if (p3 &&& (2 : Int32)) = (0 : Int32) then (0 : Int32) else (1 : Int32)) (h3 : o = if (p3 &&& (4 : Int32)) = (0 : Int32) then (0 : Int32) else (1 : Int32))
    (h4 : f = if t1 = (0 : Int32) then p1 else p0) (h5 : l = if t2 = (0 : Int32) then p2 else p0) (h6 : fh = if t1 = (0 : Int32) then if p1 = p0 then (1 : Int32) else (0 : Int32) else (1 : Int32)) (h7 : lh = if t2 = (0 : Int32) then if p2 = p0 then (1 : Int32) else (0 : Int32) else (1 : Int32))
    (h8 : ex = if fh = (0 : Int32) then (0 : Int32) else if lh = (0 : Int32) then (0 : Int32) else if o = (0 : Int32) then (1 : Int32) else (0 : Int32)) : own_only f l (nar .boolean o) p0 = ex := by
  have n0 : nar .boolean (0 : Int32) = 0 := by decide
  have n1 : nar .boolean (1 : Int32) = 1 := by decide
  have d10 : ¬ (1 : Int32) = 0 := by decide
  have q1 : t1 = 0 ∨ t1 = 1 := by rw [h1]; split <;> simp
  have q2 : t2 = 0 ∨ t2 = 1 := by rw [h2]; split <;> simp
  have q3 : o = 0 ∨ o = 1 := by rw [h3]; split <;> simp
  clear h1 h2 h3
  rcases q1 with rfl | rfl <;> rcases q2 with rfl | rfl <;> rcases q3 with rfl | rfl <;> by_cases c1 : p1 = p0 <;> by_cases c2 : p2 = p0 <;> subst h4 h5 h6 h7 h8 <;> simp [own_only, c1, c2, n0, n1]
theorem own_xor1 (p : Int32) : ¬ p = p ^^^ (1 : Int32) := by
  intro h
  have : p ^^^ p = p ^^^ (p ^^^ 1) := by rw [← h]
  rw [← Int32.xor_assoc, Int32.xor_self, Int32.zero_xor] at this
  exact absurd this (by decide)
theorem own_l2 {f l o p0 : Int32} (h : ¬ own_only f l o p0 = (0 : Int32)) : own_only f l o (p0 ^^^ (1 : Int32)) = (0 : Int32) := by
  unfold own_only at h ⊢
  by_cases c : f = p0
  · have : ¬ f = p0 ^^^ 1 := by rw [c]; exact own_xor1 p0
    simp [this]
  · simp [c] at h

def own_Q0 : Option Value → Heap → Prop := fun v _ => v = some (.int 1) ∧ True
theorem pd_1 : parseMethodDescriptor "(IIZ)V" = some ⟨[.int, .int, .boolean], none⟩ := by decide +kernel
theorem pd_2 : parseMethodDescriptor "(I)Z" = some ⟨[.int], some .boolean⟩ := by decide +kernel
theorem ef_0 (m : MethodId) (p0 : Int32) (p1 : Int32) (p2 : Int32) (p3 : Int32) : entryFrame m #[(.int p0), (.int p1), (.int p2), (.int p3)] maxLocals = mkF m 0 #[.val (.int p0), .val (.int p1), .val (.int p2), .val (.int p3), .unset, .unset, .unset, .unset, .unset, .unset, .unset, .unset, .unset, .unset] [] := by first | (simp [entryFrame, mkF, argsToLocals, Value.category, maxLocals]; done) | rfl
set_option maxRecDepth 65536 in
set_option maxHeartbeats 40000000 in
theorem rm0 (l : Launch) (Z : State) (a0 : Array Value) (hw : ∀ d ∈ tables_1, d.before a0 Z = true) (p0 p1 p2 p3 : Int32) (h0 : Heap) (n0 : Nat) (Z0 : n0 ≤ h0.size) : own_Con tables_1 l Z x code maxLocals ret room_1 n0 #[(.int p0), (.int p1), (.int p2), (.int p3)] h0 own_Q0 := by
  refine own_body (plainFor_of_name (by first | (simp [plainName, overriddenIn]; done) | decide +kernel)) (fun m => mkF m 0 #[.val (.int p0), .val (.int p1), .val (.int p2), .val (.int p3), .unset, .unset, .unset, .unset, .unset, .unset, .unset, .unset, .unset, .unset] []) (fun m => ef_0 m p0 p1 p2 p3) ?_
  intro p e s m below meth c s₁ hx hby hml hown hnm hZ hret hlk X0 e0 N0
  have hml : c.maxLocals = 14 := hml
  have hown : s.vm.findClass "org/tarndb/engine/ReachOnlyPinLaw" = some m.cls := hown
  have hret : meth.sig.returnType = some .boolean := hret
  refine own_go (T' := s₁) (g' := (mkF m 3 #[.val (.int p0), .val (.int p1), .val (.int p2), .val (.int p3), .unset, .unset, .unset, .unset, .unset, .unset, .unset, .unset, .unset, .unset] [(.int (p3 &&& (1 : Int32)))])) (fun t k => ?_) ?_
  · show Steps p.tables e below (s₁.setTop (mkF m 0 #[.val (.int p0), .val (.int p1), .val (.int p2), .val (.int p3), .unset, .unset, .unset, .unset, .unset, .unset, .unset, .unset, .unset, .unset] [])) t
    refine XS.iloadN X0.here hx rfl (hb hby at_0) rfl ?_
    show Steps p.tables e below (s₁.setTop (mkF m 1 #[.val (.int p0), .val (.int p1), .val (.int p2), .val (.int p3), .unset, .unset, .unset, .unset, .unset, .unset, .unset, .unset, .unset, .unset] [(.int p3)])) _
    refine XS.iconst X0.here hx rfl (hb hby at_1) ?_
    show Steps p.tables e below (s₁.setTop (mkF m 2 #[.val (.int p0), .val (.int p1), .val (.int p2), .val (.int p3), .unset, .unset, .unset, .unset, .unset, .unset, .unset, .unset, .unset, .unset] [(.int (1 : Int32)), (.int p3)])) _
    refine XS.iand X0.here hx rfl (hb hby at_2) rfl ?_
    show Steps p.tables e below (s₁.setTop (mkF m 3 #[.val (.int p0), .val (.int p1), .val (.int p2), .val (.int p3), .unset, .unset, .unset, .unset, .unset, .unset, .unset, .unset, .unset, .unset] [(.int (p3 &&& (1 : Int32)))])) _
    exact k
  suffices w2 : ∀ (T2 : State) (L2 : List Loc) (X2 : Stand p l e room_1 s m #[(.int p0), (.int p1), (.int p2), (.int p3)] below meth c T2 L2 0 0) (e2 : T2.heap = h0) (N2 : Fr n0 L2) (b2_s0 : Int32) (h_b2_s0 : b2_s0 = (if (p3 &&& (1 : Int32)) = (0 : Int32) then (0 : Int32) else (1 : Int32))), own_Ends p e below s n0 room_1.cells room_1.slots T2 (mkF m 11 #[.val (.int p0), .val (.int p1), .val (.int p2), .val (.int p3), .unset, .unset, .unset, .unset, .unset, .unset, .unset, .unset, .unset, .unset] [(.int b2_s0)]) own_Q0 by
    by_cases hm3_1 : (p3 &&& (1 : Int32)) = (0 : Int32)
    · refine own_go (T' := s₁) (g' := (mkF m 10 #[.val (.int p0), .val (.int p1), .val (.int p2), .val (.int p3), .unset, .unset, .unset, .unset, .unset, .unset, .unset, .unset, .unset, .unset] [])) (fun t k => ?_) ?_
      · refine XS.ifYes X0.here hx rfl (pc0 := 3) (pc' := 10) rfl (hb hby at_3) rfl ((if0 _ _).trans (teq hm3_1).1) (by decide) (by decide) ?_
        exact k
      refine own_go (T' := s₁) (g' := (mkF m 11 #[.val (.int p0), .val (.int p1), .val (.int p2), .val (.int p3), .unset, .unset, .unset, .unset, .unset, .unset, .unset, .unset, .unset, .unset] [(.int (0 : Int32))])) (fun t k => ?_) ?_
      · show Steps p.tables e below (s₁.setTop (mkF m 10 #[.val (.int p0), .val (.int p1), .val (.int p2), .val (.int p3), .unset, .unset, .unset, .unset, .unset, .unset, .unset, .unset, .unset, .unset] [])) t
        refine XS.iconst X0.here hx rfl (hb hby at_10) ?_
        show Steps p.tables e below (s₁.setTop (mkF m 11 #[.val (.int p0), .val (.int p1), .val (.int p2), .val (.int p3), .unset, .unset, .unset, .unset, .unset, .unset, .unset, .unset, .unset, .unset] [(.int (0 : Int32))])) _
        exact k
      exact w2 _ _ X0 e0 N0 (0 : Int32) (by rw [if_pos hm3_1])
    · refine own_go (T' := s₁) (g' := (mkF m 6 #[.val (.int p0), .val (.int p1), .val (.int p2), .val (.int p3), .unset, .unset, .unset, .unset, .unset, .unset, .unset, .unset, .unset, .unset] [])) (fun t k => ?_) ?_
      · refine XS.ifNo X0.here hx rfl (hb hby at_3) rfl ((if0 _ _).trans (feq hm3_1).1) ?_
        exact k
      refine own_go (T' := s₁) (g' := (mkF m 11 #[.val (.int p0), .val (.int p1), .val (.int p2), .val (.int p3), .unset, .unset, .unset, .unset, .unset, .unset, .unset, .unset, .unset, .unset] [(.int (1 : Int32))])) (fun t k => ?_) ?_
      · show Steps p.tables e below (s₁.setTop (mkF m 6 #[.val (.int p0), .val (.int p1), .val (.int p2), .val (.int p3), .unset, .unset, .unset, .unset, .unset, .unset, .unset, .unset, .unset, .unset] [])) t
        refine XS.iconst X0.here hx rfl (hb hby at_6) ?_
        show Steps p.tables e below (s₁.setTop (mkF m 7 #[.val (.int p0), .val (.int p1), .val (.int p2), .val (.int p3), .unset, .unset, .unset, .unset, .unset, .unset, .unset, .unset, .unset, .unset] [(.int (1 : Int32))])) _
        refine XS.goto X0.here hx rfl (pc0 := 7) (pc' := 11) rfl (hb hby at_7) (by decide) (by decide) ?_
        show Steps p.tables e below (s₁.setTop (mkF m 11 #[.val (.int p0), .val (.int p1), .val (.int p2), .val (.int p3), .unset, .unset, .unset, .unset, .unset, .unset, .unset, .unset, .unset, .unset] [(.int (1 : Int32))])) _
        exact k
      exact w2 _ _ X0 e0 N0 (1 : Int32) (by rw [if_neg hm3_1])
  intro T2 L2 X2 e2 N2 b2_s0 h_b2_s0
  refine own_go (T' := T2) (g' := (mkF m 16 #[.val (.int p0), .val (.int p1), .val (.int p2), .val (.int p3), .val (.int b2_s0), .unset, .unset, .unset, .unset, .unset, .unset, .unset, .unset, .unset] [(.int (p3 &&& (2 : Int32)))])) (fun t k => ?_) ?_
  · show Steps p.tables e below (T2.setTop (mkF m 11 #[.val (.int p0), .val (.int p1), .val (.int p2), .val (.int p3), .unset, .unset, .unset, .unset, .unset, .unset, .unset, .unset, .unset, .unset] [(.int b2_s0)])) t
    refine XS.istore X2.here hx rfl (hb hby at_11) rfl (l' := #[.val (.int p0), .val (.int p1), .val (.int p2), .val (.int p3), .val (.int b2_s0), .unset, .unset, .unset, .unset, .unset, .unset, .unset, .unset, .unset]) rfl ?_
    show Steps p.tables e below (T2.setTop (mkF m 13 #[.val (.int p0), .val (.int p1), .val (.int p2), .val (.int p3), .val (.int b2_s0), .unset, .unset, .unset, .unset, .unset, .unset, .unset, .unset, .unset] [])) _
    refine XS.iloadN X2.here hx rfl (hb hby at_13) rfl ?_
    show Steps p.tables e below (T2.setTop (mkF m 14 #[.val (.int p0), .val (.int p1), .val (.int p2), .val (.int p3), .val (.int b2_s0), .unset, .unset, .unset, .unset, .unset, .unset, .unset, .unset, .unset] [(.int p3)])) _
    refine XS.iconst X2.here hx rfl (hb hby at_14) ?_
    show Steps p.tables e below (T2.setTop (mkF m 15 #[.val (.int p0), .val (.int p1), .val (.int p2), .val (.int p3), .val (.int b2_s0), .unset, .unset, .unset, .unset, .unset, .unset, .unset, .unset, .unset] [(.int (2 : Int32)), (.int p3)])) _
    refine XS.iand X2.here hx rfl (hb hby at_15) rfl ?_
    show Steps p.tables e below (T2.setTop (mkF m 16 #[.val (.int p0), .val (.int p1), .val (.int p2), .val (.int p3), .val (.int b2_s0), .unset, .unset, .unset, .unset, .unset, .unset, .unset, .unset, .unset] [(.int (p3 &&& (2 : Int32)))])) _
    exact k
  suffices w4 : ∀ (T4 : State) (L4 : List Loc) (X4 : Stand p l e room_1 s m #[(.int p0), (.int p1), (.int p2), (.int p3)] below meth c T4 L4 0 0) (e4 : T4.heap = h0) (N4 : Fr n0 L4) (b4_s0 : Int32) (h_b4_s0 : b4_s0 = (if (p3 &&& (2 : Int32)) = (0 : Int32) then (0 : Int32) else (1 : Int32))), own_Ends p e below s n0 room_1.cells room_1.slots T4 (mkF m 24 #[.val (.int p0), .val (.int p1), .val (.int p2), .val (.int p3), .val (.int b2_s0), .unset, .unset, .unset, .unset, .unset, .unset, .unset, .unset, .unset] [(.int b4_s0)]) own_Q0 by
    by_cases hm16_3 : (p3 &&& (2 : Int32)) = (0 : Int32)
    · refine own_go (T' := T2) (g' := (mkF m 23 #[.val (.int p0), .val (.int p1), .val (.int p2), .val (.int p3), .val (.int b2_s0), .unset, .unset, .unset, .unset, .unset, .unset, .unset, .unset, .unset] [])) (fun t k => ?_) ?_
      · refine XS.ifYes X2.here hx rfl (pc0 := 16) (pc' := 23) rfl (hb hby at_16) rfl ((if0 _ _).trans (teq hm16_3).1) (by decide) (by decide) ?_
        exact k
      refine own_go (T' := T2) (g' := (mkF m 24 #[.val (.int p0), .val (.int p1), .val (.int p2), .val (.int p3), .val (.int b2_s0), .unset, .unset, .unset, .unset, .unset, .unset, .unset, .unset, .unset] [(.int (0 : Int32))])) (fun t k => ?_) ?_
      · show Steps p.tables e below (T2.setTop (mkF m 23 #[.val (.int p0), .val (.int p1), .val (.int p2), .val (.int p3), .val (.int b2_s0), .unset, .unset, .unset, .unset, .unset, .unset, .unset, .unset, .unset] [])) t
        refine XS.iconst X2.here hx rfl (hb hby at_23) ?_
        show Steps p.tables e below (T2.setTop (mkF m 24 #[.val (.int p0), .val (.int p1), .val (.int p2), .val (.int p3), .val (.int b2_s0), .unset, .unset, .unset, .unset, .unset, .unset, .unset, .unset, .unset] [(.int (0 : Int32))])) _
        exact k
      exact w4 _ _ X2 e2 N2 (0 : Int32) (by rw [if_pos hm16_3])
    · refine own_go (T' := T2) (g' := (mkF m 19 #[.val (.int p0), .val (.int p1), .val (.int p2), .val (.int p3), .val (.int b2_s0), .unset, .unset, .unset, .unset, .unset, .unset, .unset, .unset, .unset] [])) (fun t k => ?_) ?_
      · refine XS.ifNo X2.here hx rfl (hb hby at_16) rfl ((if0 _ _).trans (feq hm16_3).1) ?_
        exact k
      refine own_go (T' := T2) (g' := (mkF m 24 #[.val (.int p0), .val (.int p1), .val (.int p2), .val (.int p3), .val (.int b2_s0), .unset, .unset, .unset, .unset, .unset, .unset, .unset, .unset, .unset] [(.int (1 : Int32))])) (fun t k => ?_) ?_
      · show Steps p.tables e below (T2.setTop (mkF m 19 #[.val (.int p0), .val (.int p1), .val (.int p2), .val (.int p3), .val (.int b2_s0), .unset, .unset, .unset, .unset, .unset, .unset, .unset, .unset, .unset] [])) t
        refine XS.iconst X2.here hx rfl (hb hby at_19) ?_
        show Steps p.tables e below (T2.setTop (mkF m 20 #[.val (.int p0), .val (.int p1), .val (.int p2), .val (.int p3), .val (.int b2_s0), .unset, .unset, .unset, .unset, .unset, .unset, .unset, .unset, .unset] [(.int (1 : Int32))])) _
        refine XS.goto X2.here hx rfl (pc0 := 20) (pc' := 24) rfl (hb hby at_20) (by decide) (by decide) ?_
        show Steps p.tables e below (T2.setTop (mkF m 24 #[.val (.int p0), .val (.int p1), .val (.int p2), .val (.int p3), .val (.int b2_s0), .unset, .unset, .unset, .unset, .unset, .unset, .unset, .unset, .unset] [(.int (1 : Int32))])) _
        exact k
      exact w4 _ _ X2 e2 N2 (1 : Int32) (by rw [if_neg hm16_3])
  intro T4 L4 X4 e4 N4 b4_s0 h_b4_s0
  refine own_go (T' := T4) (g' := (mkF m 29 #[.val (.int p0), .val (.int p1), .val (.int p2), .val (.int p3), .val (.int b2_s0), .val (.int b4_s0), .unset, .unset, .unset, .unset, .unset, .unset, .unset, .unset] [(.int (p3 &&& (4 : Int32)))])) (fun t k => ?_) ?_
  · show Steps p.tables e below (T4.setTop (mkF m 24 #[.val (.int p0), .val (.int p1), .val (.int p2), .val (.int p3), .val (.int b2_s0), .unset, .unset, .unset, .unset, .unset, .unset, .unset, .unset, .unset] [(.int b4_s0)])) t
    refine XS.istore X4.here hx rfl (hb hby at_24) rfl (l' := #[.val (.int p0), .val (.int p1), .val (.int p2), .val (.int p3), .val (.int b2_s0), .val (.int b4_s0), .unset, .unset, .unset, .unset, .unset, .unset, .unset, .unset]) rfl ?_
    show Steps p.tables e below (T4.setTop (mkF m 26 #[.val (.int p0), .val (.int p1), .val (.int p2), .val (.int p3), .val (.int b2_s0), .val (.int b4_s0), .unset, .unset, .unset, .unset, .unset, .unset, .unset, .unset] [])) _
    refine XS.iloadN X4.here hx rfl (hb hby at_26) rfl ?_
    show Steps p.tables e below (T4.setTop (mkF m 27 #[.val (.int p0), .val (.int p1), .val (.int p2), .val (.int p3), .val (.int b2_s0), .val (.int b4_s0), .unset, .unset, .unset, .unset, .unset, .unset, .unset, .unset] [(.int p3)])) _
    refine XS.iconst X4.here hx rfl (hb hby at_27) ?_
    show Steps p.tables e below (T4.setTop (mkF m 28 #[.val (.int p0), .val (.int p1), .val (.int p2), .val (.int p3), .val (.int b2_s0), .val (.int b4_s0), .unset, .unset, .unset, .unset, .unset, .unset, .unset, .unset] [(.int (4 : Int32)), (.int p3)])) _
    refine XS.iand X4.here hx rfl (hb hby at_28) rfl ?_
    show Steps p.tables e below (T4.setTop (mkF m 29 #[.val (.int p0), .val (.int p1), .val (.int p2), .val (.int p3), .val (.int b2_s0), .val (.int b4_s0), .unset, .unset, .unset, .unset, .unset, .unset, .unset, .unset] [(.int (p3 &&& (4 : Int32)))])) _
    exact k
  suffices w6 : ∀ (T6 : State) (L6 : List Loc) (X6 : Stand p l e room_1 s m #[(.int p0), (.int p1), (.int p2), (.int p3)] below meth c T6 L6 0 0) (e6 : T6.heap = h0) (N6 : Fr n0 L6) (b6_s0 : Int32) (h_b6_s0 : b6_s0 = (if (p3 &&& (4 : Int32)) = (0 : Int32) then (0 : Int32) else (1 : Int32))), own_Ends p e below s n0 room_1.cells room_1.slots T6 (mkF m 37 #[.val (.int p0), .val (.int p1), .val (.int p2), .val (.int p3), .val (.int b2_s0), .val (.int b4_s0), .unset, .unset, .unset, .unset, .unset, .unset, .unset, .unset] [(.int b6_s0)]) own_Q0 by
    by_cases hm29_5 : (p3 &&& (4 : Int32)) = (0 : Int32)
    · refine own_go (T' := T4) (g' := (mkF m 36 #[.val (.int p0), .val (.int p1), .val (.int p2), .val (.int p3), .val (.int b2_s0), .val (.int b4_s0), .unset, .unset, .unset, .unset, .unset, .unset, .unset, .unset] [])) (fun t k => ?_) ?_
      · refine XS.ifYes X4.here hx rfl (pc0 := 29) (pc' := 36) rfl (hb hby at_29) rfl ((if0 _ _).trans (teq hm29_5).1) (by decide) (by decide) ?_
        exact k
      refine own_go (T' := T4) (g' := (mkF m 37 #[.val (.int p0), .val (.int p1), .val (.int p2), .val (.int p3), .val (.int b2_s0), .val (.int b4_s0), .unset, .unset, .unset, .unset, .unset, .unset, .unset, .unset] [(.int (0 : Int32))])) (fun t k => ?_) ?_
      · show Steps p.tables e below (T4.setTop (mkF m 36 #[.val (.int p0), .val (.int p1), .val (.int p2), .val (.int p3), .val (.int b2_s0), .val (.int b4_s0), .unset, .unset, .unset, .unset, .unset, .unset, .unset, .unset] [])) t
        refine XS.iconst X4.here hx rfl (hb hby at_36) ?_
        show Steps p.tables e below (T4.setTop (mkF m 37 #[.val (.int p0), .val (.int p1), .val (.int p2), .val (.int p3), .val (.int b2_s0), .val (.int b4_s0), .unset, .unset, .unset, .unset, .unset, .unset, .unset, .unset] [(.int (0 : Int32))])) _
        exact k
      exact w6 _ _ X4 e4 N4 (0 : Int32) (by rw [if_pos hm29_5])
    · refine own_go (T' := T4) (g' := (mkF m 32 #[.val (.int p0), .val (.int p1), .val (.int p2), .val (.int p3), .val (.int b2_s0), .val (.int b4_s0), .unset, .unset, .unset, .unset, .unset, .unset, .unset, .unset] [])) (fun t k => ?_) ?_
      · refine XS.ifNo X4.here hx rfl (hb hby at_29) rfl ((if0 _ _).trans (feq hm29_5).1) ?_
        exact k
      refine own_go (T' := T4) (g' := (mkF m 37 #[.val (.int p0), .val (.int p1), .val (.int p2), .val (.int p3), .val (.int b2_s0), .val (.int b4_s0), .unset, .unset, .unset, .unset, .unset, .unset, .unset, .unset] [(.int (1 : Int32))])) (fun t k => ?_) ?_
      · show Steps p.tables e below (T4.setTop (mkF m 32 #[.val (.int p0), .val (.int p1), .val (.int p2), .val (.int p3), .val (.int b2_s0), .val (.int b4_s0), .unset, .unset, .unset, .unset, .unset, .unset, .unset, .unset] [])) t
        refine XS.iconst X4.here hx rfl (hb hby at_32) ?_
        show Steps p.tables e below (T4.setTop (mkF m 33 #[.val (.int p0), .val (.int p1), .val (.int p2), .val (.int p3), .val (.int b2_s0), .val (.int b4_s0), .unset, .unset, .unset, .unset, .unset, .unset, .unset, .unset] [(.int (1 : Int32))])) _
        refine XS.goto X4.here hx rfl (pc0 := 33) (pc' := 37) rfl (hb hby at_33) (by decide) (by decide) ?_
        show Steps p.tables e below (T4.setTop (mkF m 37 #[.val (.int p0), .val (.int p1), .val (.int p2), .val (.int p3), .val (.int b2_s0), .val (.int b4_s0), .unset, .unset, .unset, .unset, .unset, .unset, .unset, .unset] [(.int (1 : Int32))])) _
        exact k
      exact w6 _ _ X4 e4 N4 (1 : Int32) (by rw [if_neg hm29_5])
  intro T6 L6 X6 e6 N6 b6_s0 h_b6_s0
  refine own_go (T' := T6) (g' := (mkF m 41 #[.val (.int p0), .val (.int p1), .val (.int p2), .val (.int p3), .val (.int b2_s0), .val (.int b4_s0), .val (.int b6_s0), .unset, .unset, .unset, .unset, .unset, .unset, .unset] [(.int b2_s0)])) (fun t k => ?_) ?_
  · show Steps p.tables e below (T6.setTop (mkF m 37 #[.val (.int p0), .val (.int p1), .val (.int p2), .val (.int p3), .val (.int b2_s0), .val (.int b4_s0), .unset, .unset, .unset, .unset, .unset, .unset, .unset, .unset] [(.int b6_s0)])) t
    refine XS.istore X6.here hx rfl (hb hby at_37) rfl (l' := #[.val (.int p0), .val (.int p1), .val (.int p2), .val (.int p3), .val (.int b2_s0), .val (.int b4_s0), .val (.int b6_s0), .unset, .unset, .unset, .unset, .unset, .unset, .unset]) rfl ?_
    show Steps p.tables e below (T6.setTop (mkF m 39 #[.val (.int p0), .val (.int p1), .val (.int p2), .val (.int p3), .val (.int b2_s0), .val (.int b4_s0), .val (.int b6_s0), .unset, .unset, .unset, .unset, .unset, .unset, .unset] [])) _
    refine XS.iload X6.here hx rfl (hb hby at_39) rfl ?_
    show Steps p.tables e below (T6.setTop (mkF m 41 #[.val (.int p0), .val (.int p1), .val (.int p2), .val (.int p3), .val (.int b2_s0), .val (.int b4_s0), .val (.int b6_s0), .unset, .unset, .unset, .unset, .unset, .unset, .unset] [(.int b2_s0)])) _
    exact k
  suffices w8 : ∀ (T8 : State) (L8 : List Loc) (X8 : Stand p l e room_1 s m #[(.int p0), (.int p1), (.int p2), (.int p3)] below meth c T8 L8 0 0) (e8 : T8.heap = h0) (N8 : Fr n0 L8) (b8_s0 : Int32) (h_b8_s0 : b8_s0 = (if b2_s0 = (0 : Int32) then p1 else p0)), own_Ends p e below s n0 room_1.cells room_1.slots T8 (mkF m 49 #[.val (.int p0), .val (.int p1), .val (.int p2), .val (.int p3), .val (.int b2_s0), .val (.int b4_s0), .val (.int b6_s0), .unset, .unset, .unset, .unset, .unset, .unset, .unset] [(.int b8_s0)]) own_Q0 by
    by_cases hm41_7 : b2_s0 = (0 : Int32)
    · refine own_go (T' := T6) (g' := (mkF m 48 #[.val (.int p0), .val (.int p1), .val (.int p2), .val (.int p3), .val (.int b2_s0), .val (.int b4_s0), .val (.int b6_s0), .unset, .unset, .unset, .unset, .unset, .unset, .unset] [])) (fun t k => ?_) ?_
      · refine XS.ifYes X6.here hx rfl (pc0 := 41) (pc' := 48) rfl (hb hby at_41) rfl ((if0 _ _).trans (teq hm41_7).1) (by decide) (by decide) ?_
        exact k
      refine own_go (T' := T6) (g' := (mkF m 49 #[.val (.int p0), .val (.int p1), .val (.int p2), .val (.int p3), .val (.int b2_s0), .val (.int b4_s0), .val (.int b6_s0), .unset, .unset, .unset, .unset, .unset, .unset, .unset] [(.int p1)])) (fun t k => ?_) ?_
      · show Steps p.tables e below (T6.setTop (mkF m 48 #[.val (.int p0), .val (.int p1), .val (.int p2), .val (.int p3), .val (.int b2_s0), .val (.int b4_s0), .val (.int b6_s0), .unset, .unset, .unset, .unset, .unset, .unset, .unset] [])) t
        refine XS.iloadN X6.here hx rfl (hb hby at_48) rfl ?_
        show Steps p.tables e below (T6.setTop (mkF m 49 #[.val (.int p0), .val (.int p1), .val (.int p2), .val (.int p3), .val (.int b2_s0), .val (.int b4_s0), .val (.int b6_s0), .unset, .unset, .unset, .unset, .unset, .unset, .unset] [(.int p1)])) _
        exact k
      exact w8 _ _ X6 e6 N6 p1 (by rw [if_pos hm41_7])
    · refine own_go (T' := T6) (g' := (mkF m 44 #[.val (.int p0), .val (.int p1), .val (.int p2), .val (.int p3), .val (.int b2_s0), .val (.int b4_s0), .val (.int b6_s0), .unset, .unset, .unset, .unset, .unset, .unset, .unset] [])) (fun t k => ?_) ?_
      · refine XS.ifNo X6.here hx rfl (hb hby at_41) rfl ((if0 _ _).trans (feq hm41_7).1) ?_
        exact k
      refine own_go (T' := T6) (g' := (mkF m 49 #[.val (.int p0), .val (.int p1), .val (.int p2), .val (.int p3), .val (.int b2_s0), .val (.int b4_s0), .val (.int b6_s0), .unset, .unset, .unset, .unset, .unset, .unset, .unset] [(.int p0)])) (fun t k => ?_) ?_
      · show Steps p.tables e below (T6.setTop (mkF m 44 #[.val (.int p0), .val (.int p1), .val (.int p2), .val (.int p3), .val (.int b2_s0), .val (.int b4_s0), .val (.int b6_s0), .unset, .unset, .unset, .unset, .unset, .unset, .unset] [])) t
        refine XS.iloadN X6.here hx rfl (hb hby at_44) rfl ?_
        show Steps p.tables e below (T6.setTop (mkF m 45 #[.val (.int p0), .val (.int p1), .val (.int p2), .val (.int p3), .val (.int b2_s0), .val (.int b4_s0), .val (.int b6_s0), .unset, .unset, .unset, .unset, .unset, .unset, .unset] [(.int p0)])) _
        refine XS.goto X6.here hx rfl (pc0 := 45) (pc' := 49) rfl (hb hby at_45) (by decide) (by decide) ?_
        show Steps p.tables e below (T6.setTop (mkF m 49 #[.val (.int p0), .val (.int p1), .val (.int p2), .val (.int p3), .val (.int b2_s0), .val (.int b4_s0), .val (.int b6_s0), .unset, .unset, .unset, .unset, .unset, .unset, .unset] [(.int p0)])) _
        exact k
      exact w8 _ _ X6 e6 N6 p0 (by rw [if_neg hm41_7])
  intro T8 L8 X8 e8 N8 b8_s0 h_b8_s0
  refine own_go (T' := T8) (g' := (mkF m 53 #[.val (.int p0), .val (.int p1), .val (.int p2), .val (.int p3), .val (.int b2_s0), .val (.int b4_s0), .val (.int b6_s0), .val (.int b8_s0), .unset, .unset, .unset, .unset, .unset, .unset] [(.int b4_s0)])) (fun t k => ?_) ?_
  · show Steps p.tables e below (T8.setTop (mkF m 49 #[.val (.int p0), .val (.int p1), .val (.int p2), .val (.int p3), .val (.int b2_s0), .val (.int b4_s0), .val (.int b6_s0), .unset, .unset, .unset, .unset, .unset, .unset, .unset] [(.int b8_s0)])) t
    refine XS.istore X8.here hx rfl (hb hby at_49) rfl (l' := #[.val (.int p0), .val (.int p1), .val (.int p2), .val (.int p3), .val (.int b2_s0), .val (.int b4_s0), .val (.int b6_s0), .val (.int b8_s0), .unset, .unset, .unset, .unset, .unset, .unset]) rfl ?_
    show Steps p.tables e below (T8.setTop (mkF m 51 #[.val (.int p0), .val (.int p1), .val (.int p2), .val (.int p3), .val (.int b2_s0), .val (.int b4_s0), .val (.int b6_s0), .val (.int b8_s0), .unset, .unset, .unset, .unset, .unset, .unset] [])) _
    refine XS.iload X8.here hx rfl (hb hby at_51) rfl ?_
    show Steps p.tables e below (T8.setTop (mkF m 53 #[.val (.int p0), .val (.int p1), .val (.int p2), .val (.int p3), .val (.int b2_s0), .val (.int b4_s0), .val (.int b6_s0), .val (.int b8_s0), .unset, .unset, .unset, .unset, .unset, .unset] [(.int b4_s0)])) _
    exact k
  suffices w10 : ∀ (T10 : State) (L10 : List Loc) (X10 : Stand p l e room_1 s m #[(.int p0), (.int p1), (.int p2), (.int p3)] below meth c T10 L10 0 0) (e10 : T10.heap = h0) (N10 : Fr n0 L10) (b10_s0 : Int32) (h_b10_s0 : b10_s0 = (if b4_s0 = (0 : Int32) then p2 else p0)), own_Ends p e below s n0 room_1.cells room_1.slots T10 (mkF m 61 #[.val (.int p0), .val (.int p1), .val (.int p2), .val (.int p3), .val (.int b2_s0), .val (.int b4_s0), .val (.int b6_s0), .val (.int b8_s0), .unset, .unset, .unset, .unset, .unset, .unset] [(.int b10_s0)]) own_Q0 by
    by_cases hm53_9 : b4_s0 = (0 : Int32)
    · refine own_go (T' := T8) (g' := (mkF m 60 #[.val (.int p0), .val (.int p1), .val (.int p2), .val (.int p3), .val (.int b2_s0), .val (.int b4_s0), .val (.int b6_s0), .val (.int b8_s0), .unset, .unset, .unset, .unset, .unset, .unset] [])) (fun t k => ?_) ?_
      · refine XS.ifYes X8.here hx rfl (pc0 := 53) (pc' := 60) rfl (hb hby at_53) rfl ((if0 _ _).trans (teq hm53_9).1) (by decide) (by decide) ?_
        exact k
      refine own_go (T' := T8) (g' := (mkF m 61 #[.val (.int p0), .val (.int p1), .val (.int p2), .val (.int p3), .val (.int b2_s0), .val (.int b4_s0), .val (.int b6_s0), .val (.int b8_s0), .unset, .unset, .unset, .unset, .unset, .unset] [(.int p2)])) (fun t k => ?_) ?_
      · show Steps p.tables e below (T8.setTop (mkF m 60 #[.val (.int p0), .val (.int p1), .val (.int p2), .val (.int p3), .val (.int b2_s0), .val (.int b4_s0), .val (.int b6_s0), .val (.int b8_s0), .unset, .unset, .unset, .unset, .unset, .unset] [])) t
        refine XS.iloadN X8.here hx rfl (hb hby at_60) rfl ?_
        show Steps p.tables e below (T8.setTop (mkF m 61 #[.val (.int p0), .val (.int p1), .val (.int p2), .val (.int p3), .val (.int b2_s0), .val (.int b4_s0), .val (.int b6_s0), .val (.int b8_s0), .unset, .unset, .unset, .unset, .unset, .unset] [(.int p2)])) _
        exact k
      exact w10 _ _ X8 e8 N8 p2 (by rw [if_pos hm53_9])
    · refine own_go (T' := T8) (g' := (mkF m 56 #[.val (.int p0), .val (.int p1), .val (.int p2), .val (.int p3), .val (.int b2_s0), .val (.int b4_s0), .val (.int b6_s0), .val (.int b8_s0), .unset, .unset, .unset, .unset, .unset, .unset] [])) (fun t k => ?_) ?_
      · refine XS.ifNo X8.here hx rfl (hb hby at_53) rfl ((if0 _ _).trans (feq hm53_9).1) ?_
        exact k
      refine own_go (T' := T8) (g' := (mkF m 61 #[.val (.int p0), .val (.int p1), .val (.int p2), .val (.int p3), .val (.int b2_s0), .val (.int b4_s0), .val (.int b6_s0), .val (.int b8_s0), .unset, .unset, .unset, .unset, .unset, .unset] [(.int p0)])) (fun t k => ?_) ?_
      · show Steps p.tables e below (T8.setTop (mkF m 56 #[.val (.int p0), .val (.int p1), .val (.int p2), .val (.int p3), .val (.int b2_s0), .val (.int b4_s0), .val (.int b6_s0), .val (.int b8_s0), .unset, .unset, .unset, .unset, .unset, .unset] [])) t
        refine XS.iloadN X8.here hx rfl (hb hby at_56) rfl ?_
        show Steps p.tables e below (T8.setTop (mkF m 57 #[.val (.int p0), .val (.int p1), .val (.int p2), .val (.int p3), .val (.int b2_s0), .val (.int b4_s0), .val (.int b6_s0), .val (.int b8_s0), .unset, .unset, .unset, .unset, .unset, .unset] [(.int p0)])) _
        refine XS.goto X8.here hx rfl (pc0 := 57) (pc' := 61) rfl (hb hby at_57) (by decide) (by decide) ?_
        show Steps p.tables e below (T8.setTop (mkF m 61 #[.val (.int p0), .val (.int p1), .val (.int p2), .val (.int p3), .val (.int b2_s0), .val (.int b4_s0), .val (.int b6_s0), .val (.int b8_s0), .unset, .unset, .unset, .unset, .unset, .unset] [(.int p0)])) _
        exact k
      exact w10 _ _ X8 e8 N8 p0 (by rw [if_neg hm53_9])
  intro T10 L10 X10 e10 N10 b10_s0 h_b10_s0
  refine own_go (T' := T10) (g' := (mkF m 63 #[.val (.int p0), .val (.int p1), .val (.int p2), .val (.int p3), .val (.int b2_s0), .val (.int b4_s0), .val (.int b6_s0), .val (.int b8_s0), .val (.int b10_s0), .unset, .unset, .unset, .unset, .unset] [])) (fun t k => ?_) ?_
  · show Steps p.tables e below (T10.setTop (mkF m 61 #[.val (.int p0), .val (.int p1), .val (.int p2), .val (.int p3), .val (.int b2_s0), .val (.int b4_s0), .val (.int b6_s0), .val (.int b8_s0), .unset, .unset, .unset, .unset, .unset, .unset] [(.int b10_s0)])) t
    refine XS.istore X10.here hx rfl (hb hby at_61) rfl (l' := #[.val (.int p0), .val (.int p1), .val (.int p2), .val (.int p3), .val (.int b2_s0), .val (.int b4_s0), .val (.int b6_s0), .val (.int b8_s0), .val (.int b10_s0), .unset, .unset, .unset, .unset, .unset]) rfl ?_
    show Steps p.tables e below (T10.setTop (mkF m 63 #[.val (.int p0), .val (.int p1), .val (.int p2), .val (.int p3), .val (.int b2_s0), .val (.int b4_s0), .val (.int b6_s0), .val (.int b8_s0), .val (.int b10_s0), .unset, .unset, .unset, .unset, .unset] [])) _
    exact k
  obtain ⟨T11, h11, X11, e11, E11, A11, D11, -, st11⟩ := newO X10 hx hZ hown (hw _ (List.mem_of_getElem? (i := 0) rfl)) (hw _ (List.mem_of_getElem? (i := 1) rfl)) (hw _ (List.mem_of_getElem? (i := 2) rfl)) e10 (g := (mkF m 63 #[.val (.int p0), .val (.int p1), .val (.int p2), .val (.int p3), .val (.int b2_s0), .val (.int b4_s0), .val (.int b6_s0), .val (.int b8_s0), .val (.int b10_s0), .unset, .unset, .unset, .unset, .unset] [])) rfl (hb hby at_63) (by decide) (by decide)
  obtain ⟨b11, g11⟩ : ∃ z, z = h0.size := ⟨_, rfl⟩
  rw [← g11] at A11 D11 st11
  have ga_b11 : n0 ≤ b11 := Nat.le_trans Z0 (Nat.le_of_eq g11.symm)
  have sz_11 := Nat.le_trans Z0 E11.1
  have F_b11_first_11 : Fld Z h11 b11 "org/tarndb/engine/Scope$Reach" "first" "I" (.int (0 : Int32)) := D11 (Or.inr (hw _ (List.mem_of_getElem? (i := 15) rfl))) (ty := .int) (by decide)
  have F_b11_last_11 : Fld Z h11 b11 "org/tarndb/engine/Scope$Reach" "last" "I" (.int (0 : Int32)) := D11 (Or.inr (hw _ (List.mem_of_getElem? (i := 17) rfl))) (ty := .int) (by decide)
  have F_b11_outer_11 : Fld Z h11 b11 "org/tarndb/engine/Scope$Reach" "outer" "Z" (.int (0 : Int32)) := D11 (Or.inr (hw _ (List.mem_of_getElem? (i := 19) rfl))) (ty := .boolean) (by decide)
  refine own_go (T' := T11) (g' := (mkF m 66 #[.val (.int p0), .val (.int p1), .val (.int p2), .val (.int p3), .val (.int b2_s0), .val (.int b4_s0), .val (.int b6_s0), .val (.int b8_s0), .val (.int b10_s0), .unset, .unset, .unset, .unset, .unset] [(.ref b11)])) st11 ?_
  refine own_go (T' := T11) (g' := (mkF m 73 #[.val (.int p0), .val (.int p1), .val (.int p2), .val (.int p3), .val (.int b2_s0), .val (.int b4_s0), .val (.int b6_s0), .val (.int b8_s0), .val (.int b10_s0), .unset, .unset, .unset, .unset, .unset] [(.int b6_s0), (.int b10_s0), (.int b8_s0), (.ref b11), (.ref b11)])) (fun t k => ?_) ?_
  · show Steps p.tables e below (T11.setTop (mkF m 66 #[.val (.int p0), .val (.int p1), .val (.int p2), .val (.int p3), .val (.int b2_s0), .val (.int b4_s0), .val (.int b6_s0), .val (.int b8_s0), .val (.int b10_s0), .unset, .unset, .unset, .unset, .unset] [(.ref b11)])) t
    refine XS.dup X11.here hx rfl (hb hby at_66) rfl rfl ?_
    show Steps p.tables e below (T11.setTop (mkF m 67 #[.val (.int p0), .val (.int p1), .val (.int p2), .val (.int p3), .val (.int b2_s0), .val (.int b4_s0), .val (.int b6_s0), .val (.int b8_s0), .val (.int b10_s0), .unset, .unset, .unset, .unset, .unset] [(.ref b11), (.ref b11)])) _
    refine XS.iload X11.here hx rfl (hb hby at_67) rfl ?_
    show Steps p.tables e below (T11.setTop (mkF m 69 #[.val (.int p0), .val (.int p1), .val (.int p2), .val (.int p3), .val (.int b2_s0), .val (.int b4_s0), .val (.int b6_s0), .val (.int b8_s0), .val (.int b10_s0), .unset, .unset, .unset, .unset, .unset] [(.int b8_s0), (.ref b11), (.ref b11)])) _
    refine XS.iload X11.here hx rfl (hb hby at_69) rfl ?_
    show Steps p.tables e below (T11.setTop (mkF m 71 #[.val (.int p0), .val (.int p1), .val (.int p2), .val (.int p3), .val (.int b2_s0), .val (.int b4_s0), .val (.int b6_s0), .val (.int b8_s0), .val (.int b10_s0), .unset, .unset, .unset, .unset, .unset] [(.int b10_s0), (.int b8_s0), (.ref b11), (.ref b11)])) _
    refine XS.iload X11.here hx rfl (hb hby at_71) rfl ?_
    show Steps p.tables e below (T11.setTop (mkF m 73 #[.val (.int p0), .val (.int p1), .val (.int p2), .val (.int p3), .val (.int b2_s0), .val (.int b4_s0), .val (.int b6_s0), .val (.int b8_s0), .val (.int b10_s0), .unset, .unset, .unset, .unset, .unset] [(.int b6_s0), (.int b10_s0), (.int b8_s0), (.ref b11), (.ref b11)])) _
    exact k
  obtain ⟨_, T12, L12, X12, N12, ⟨rfl, E12, F12a, F12b, F12c⟩, st12⟩ := own_callI X11 hx hZ rfl hown (hw _ (List.mem_of_getElem? (i := 3) rfl)) (hw _ (List.mem_of_getElem? (i := 4) rfl)) (hw _ (List.mem_of_getElem? (i := 2) rfl)) (hw _ (List.mem_of_getElem? (i := 5) rfl)) (by decide) (a := b11) (argsL := [(.int b8_s0), (.int b10_s0), (.int b6_s0)]) (rest := [(.ref b11)]) (rm1 l Z a0 hw b11 b8_s0 b10_s0 b6_s0 h11 n0 sz_11 ga_b11 A11 F_b11_first_11 F_b11_last_11 F_b11_outer_11) (W := 1) (by decide) (by decide) (g := (mkF m 73 #[.val (.int p0), .val (.int p1), .val (.int p2), .val (.int p3), .val (.int b2_s0), .val (.int b4_s0), .val (.int b6_s0), .val (.int b8_s0), .val (.int b10_s0), .unset, .unset, .unset, .unset, .unset] [(.int b6_s0), (.int b10_s0), (.int b8_s0), (.ref b11), (.ref b11)])) rfl (by rw [hml]; rfl) pd_1 rfl rfl (by show 2 * 0 + _ ≤ _; exact Nat.le_of_eq rfl) (hb hby at_73) e11 (by decide) (by decide) N10
  refine own_go (T' := T12) (g' := (mkF m 76 #[.val (.int p0), .val (.int p1), .val (.int p2), .val (.int p3), .val (.int b2_s0), .val (.int b4_s0), .val (.int b6_s0), .val (.int b8_s0), .val (.int b10_s0), .unset, .unset, .unset, .unset, .unset] [(.ref b11)])) st12 ?_
  refine own_go (T' := T12) (g' := (mkF m 80 #[.val (.int p0), .val (.int p1), .val (.int p2), .val (.int p3), .val (.int b2_s0), .val (.int b4_s0), .val (.int b6_s0), .val (.int b8_s0), .val (.int b10_s0), .val (.ref b11), .unset, .unset, .unset, .unset] [(.int b2_s0)])) (fun t k => ?_) ?_
  · show Steps p.tables e below (T12.setTop (mkF m 76 #[.val (.int p0), .val (.int p1), .val (.int p2), .val (.int p3), .val (.int b2_s0), .val (.int b4_s0), .val (.int b6_s0), .val (.int b8_s0), .val (.int b10_s0), .unset, .unset, .unset, .unset, .unset] [(.ref b11)])) t
    refine XS.astore X12.here hx rfl (hb hby at_76) rfl rfl (l' := #[.val (.int p0), .val (.int p1), .val (.int p2), .val (.int p3), .val (.int b2_s0), .val (.int b4_s0), .val (.int b6_s0), .val (.int b8_s0), .val (.int b10_s0), .val (.ref b11), .unset, .unset, .unset, .unset]) rfl ?_
    show Steps p.tables e below (T12.setTop (mkF m 78 #[.val (.int p0), .val (.int p1), .val (.int p2), .val (.int p3), .val (.int b2_s0), .val (.int b4_s0), .val (.int b6_s0), .val (.int b8_s0), .val (.int b10_s0), .val (.ref b11), .unset, .unset, .unset, .unset] [])) _
    refine XS.iload X12.here hx rfl (hb hby at_78) rfl ?_
    show Steps p.tables e below (T12.setTop (mkF m 80 #[.val (.int p0), .val (.int p1), .val (.int p2), .val (.int p3), .val (.int b2_s0), .val (.int b4_s0), .val (.int b6_s0), .val (.int b8_s0), .val (.int b10_s0), .val (.ref b11), .unset, .unset, .unset, .unset] [(.int b2_s0)])) _
    exact k
  suffices w15 : ∀ (T15 : State) (L15 : List Loc) (X15 : Stand p l e room_1 s m #[(.int p0), (.int p1), (.int p2), (.int p3)] below meth c T15 L15 1 3) (e15 : T15.heap = T12.heap) (N15 : Fr n0 L15) (b15_s0 : Int32) (h_b15_s0 : b15_s0 = (if b2_s0 = (0 : Int32) then (if p1 = p0 then (1 : Int32) else (0 : Int32)) else (1 : Int32))), own_Ends p e below s n0 room_1.cells room_1.slots T15 (mkF m 93 #[.val (.int p0), .val (.int p1), .val (.int p2), .val (.int p3), .val (.int b2_s0), .val (.int b4_s0), .val (.int b6_s0), .val (.int b8_s0), .val (.int b10_s0), .val (.ref b11), .unset, .unset, .unset, .unset] [(.int b15_s0)]) own_Q0 by
    by_cases hm80_13 : b2_s0 = (0 : Int32)
    · refine own_go (T' := T12) (g' := (mkF m 83 #[.val (.int p0), .val (.int p1), .val (.int p2), .val (.int p3), .val (.int b2_s0), .val (.int b4_s0), .val (.int b6_s0), .val (.int b8_s0), .val (.int b10_s0), .val (.ref b11), .unset, .unset, .unset, .unset] [])) (fun t k => ?_) ?_
      · refine XS.ifNo X12.here hx rfl (hb hby at_80) rfl ((if0 _ _).trans (teq hm80_13).2) ?_
        exact k
      refine own_go (T' := T12) (g' := (mkF m 85 #[.val (.int p0), .val (.int p1), .val (.int p2), .val (.int p3), .val (.int b2_s0), .val (.int b4_s0), .val (.int b6_s0), .val (.int b8_s0), .val (.int b10_s0), .val (.ref b11), .unset, .unset, .unset, .unset] [(.int p0), (.int p1)])) (fun t k => ?_) ?_
      · show Steps p.tables e below (T12.setTop (mkF m 83 #[.val (.int p0), .val (.int p1), .val (.int p2), .val (.int p3), .val (.int b2_s0), .val (.int b4_s0), .val (.int b6_s0), .val (.int b8_s0), .val (.int b10_s0), .val (.ref b11), .unset, .unset, .unset, .unset] [])) t
        refine XS.iloadN X12.here hx rfl (hb hby at_83) rfl ?_
        show Steps p.tables e below (T12.setTop (mkF m 84 #[.val (.int p0), .val (.int p1), .val (.int p2), .val (.int p3), .val (.int b2_s0), .val (.int b4_s0), .val (.int b6_s0), .val (.int b8_s0), .val (.int b10_s0), .val (.ref b11), .unset, .unset, .unset, .unset] [(.int p1)])) _
        refine XS.iloadN X12.here hx rfl (hb hby at_84) rfl ?_
        show Steps p.tables e below (T12.setTop (mkF m 85 #[.val (.int p0), .val (.int p1), .val (.int p2), .val (.int p3), .val (.int b2_s0), .val (.int b4_s0), .val (.int b6_s0), .val (.int b8_s0), .val (.int b10_s0), .val (.ref b11), .unset, .unset, .unset, .unset] [(.int p0), (.int p1)])) _
        exact k
      by_cases hm85_14 : p1 = p0
      · refine own_go (T' := T12) (g' := (mkF m 88 #[.val (.int p0), .val (.int p1), .val (.int p2), .val (.int p3), .val (.int b2_s0), .val (.int b4_s0), .val (.int b6_s0), .val (.int b8_s0), .val (.int b10_s0), .val (.ref b11), .unset, .unset, .unset, .unset] [])) (fun t k => ?_) ?_
        · refine XS.icmpNo X12.here hx rfl (hb hby at_85) rfl (teq hm85_14).2 ?_
          exact k
        refine own_go (T' := T12) (g' := (mkF m 93 #[.val (.int p0), .val (.int p1), .val (.int p2), .val (.int p3), .val (.int b2_s0), .val (.int b4_s0), .val (.int b6_s0), .val (.int b8_s0), .val (.int b10_s0), .val (.ref b11), .unset, .unset, .unset, .unset] [(.int (1 : Int32))])) (fun t k => ?_) ?_
        · show Steps p.tables e below (T12.setTop (mkF m 88 #[.val (.int p0), .val (.int p1), .val (.int p2), .val (.int p3), .val (.int b2_s0), .val (.int b4_s0), .val (.int b6_s0), .val (.int b8_s0), .val (.int b10_s0), .val (.ref b11), .unset, .unset, .unset, .unset] [])) t
          refine XS.iconst X12.here hx rfl (hb hby at_88) ?_
          show Steps p.tables e below (T12.setTop (mkF m 89 #[.val (.int p0), .val (.int p1), .val (.int p2), .val (.int p3), .val (.int b2_s0), .val (.int b4_s0), .val (.int b6_s0), .val (.int b8_s0), .val (.int b10_s0), .val (.ref b11), .unset, .unset, .unset, .unset] [(.int (1 : Int32))])) _
          refine XS.goto X12.here hx rfl (pc0 := 89) (pc' := 93) rfl (hb hby at_89) (by decide) (by decide) ?_
          show Steps p.tables e below (T12.setTop (mkF m 93 #[.val (.int p0), .val (.int p1), .val (.int p2), .val (.int p3), .val (.int b2_s0), .val (.int b4_s0), .val (.int b6_s0), .val (.int b8_s0), .val (.int b10_s0), .val (.ref b11), .unset, .unset, .unset, .unset] [(.int (1 : Int32))])) _
          exact k
        exact w15 _ _ X12 rfl N12 (1 : Int32) (by rw [if_pos hm80_13, if_pos hm85_14])
      · refine own_go (T' := T12) (g' := (mkF m 92 #[.val (.int p0), .val (.int p1), .val (.int p2), .val (.int p3), .val (.int b2_s0), .val (.int b4_s0), .val (.int b6_s0), .val (.int b8_s0), .val (.int b10_s0), .val (.ref b11), .unset, .unset, .unset, .unset] [])) (fun t k => ?_) ?_
        · refine XS.icmpYes X12.here hx rfl (pc0 := 85) (pc' := 92) rfl (hb hby at_85) rfl (feq hm85_14).2 (by decide) (by decide) ?_
          exact k
        refine own_go (T' := T12) (g' := (mkF m 93 #[.val (.int p0), .val (.int p1), .val (.int p2), .val (.int p3), .val (.int b2_s0), .val (.int b4_s0), .val (.int b6_s0), .val (.int b8_s0), .val (.int b10_s0), .val (.ref b11), .unset, .unset, .unset, .unset] [(.int (0 : Int32))])) (fun t k => ?_) ?_
        · show Steps p.tables e below (T12.setTop (mkF m 92 #[.val (.int p0), .val (.int p1), .val (.int p2), .val (.int p3), .val (.int b2_s0), .val (.int b4_s0), .val (.int b6_s0), .val (.int b8_s0), .val (.int b10_s0), .val (.ref b11), .unset, .unset, .unset, .unset] [])) t
          refine XS.iconst X12.here hx rfl (hb hby at_92) ?_
          show Steps p.tables e below (T12.setTop (mkF m 93 #[.val (.int p0), .val (.int p1), .val (.int p2), .val (.int p3), .val (.int b2_s0), .val (.int b4_s0), .val (.int b6_s0), .val (.int b8_s0), .val (.int b10_s0), .val (.ref b11), .unset, .unset, .unset, .unset] [(.int (0 : Int32))])) _
          exact k
        exact w15 _ _ X12 rfl N12 (0 : Int32) (by rw [if_pos hm80_13, if_neg hm85_14])
    · refine own_go (T' := T12) (g' := (mkF m 88 #[.val (.int p0), .val (.int p1), .val (.int p2), .val (.int p3), .val (.int b2_s0), .val (.int b4_s0), .val (.int b6_s0), .val (.int b8_s0), .val (.int b10_s0), .val (.ref b11), .unset, .unset, .unset, .unset] [])) (fun t k => ?_) ?_
      · refine XS.ifYes X12.here hx rfl (pc0 := 80) (pc' := 88) rfl (hb hby at_80) rfl ((if0 _ _).trans (feq hm80_13).2) (by decide) (by decide) ?_
        exact k
      refine own_go (T' := T12) (g' := (mkF m 93 #[.val (.int p0), .val (.int p1), .val (.int p2), .val (.int p3), .val (.int b2_s0), .val (.int b4_s0), .val (.int b6_s0), .val (.int b8_s0), .val (.int b10_s0), .val (.ref b11), .unset, .unset, .unset, .unset] [(.int (1 : Int32))])) (fun t k => ?_) ?_
      · show Steps p.tables e below (T12.setTop (mkF m 88 #[.val (.int p0), .val (.int p1), .val (.int p2), .val (.int p3), .val (.int b2_s0), .val (.int b4_s0), .val (.int b6_s0), .val (.int b8_s0), .val (.int b10_s0), .val (.ref b11), .unset, .unset, .unset, .unset] [])) t
        refine XS.iconst X12.here hx rfl (hb hby at_88) ?_
        show Steps p.tables e below (T12.setTop (mkF m 89 #[.val (.int p0), .val (.int p1), .val (.int p2), .val (.int p3), .val (.int b2_s0), .val (.int b4_s0), .val (.int b6_s0), .val (.int b8_s0), .val (.int b10_s0), .val (.ref b11), .unset, .unset, .unset, .unset] [(.int (1 : Int32))])) _
        refine XS.goto X12.here hx rfl (pc0 := 89) (pc' := 93) rfl (hb hby at_89) (by decide) (by decide) ?_
        show Steps p.tables e below (T12.setTop (mkF m 93 #[.val (.int p0), .val (.int p1), .val (.int p2), .val (.int p3), .val (.int b2_s0), .val (.int b4_s0), .val (.int b6_s0), .val (.int b8_s0), .val (.int b10_s0), .val (.ref b11), .unset, .unset, .unset, .unset] [(.int (1 : Int32))])) _
        exact k
      exact w15 _ _ X12 rfl N12 (1 : Int32) (by rw [if_neg hm80_13])
  intro T15 L15 X15 e15 N15 b15_s0 h_b15_s0
  refine own_go (T' := T15) (g' := (mkF m 97 #[.val (.int p0), .val (.int p1), .val (.int p2), .val (.int p3), .val (.int b2_s0), .val (.int b4_s0), .val (.int b6_s0), .val (.int b8_s0), .val (.int b10_s0), .val (.ref b11), .val (.int b15_s0), .unset, .unset, .unset] [(.int b4_s0)])) (fun t k => ?_) ?_
  · show Steps p.tables e below (T15.setTop (mkF m 93 #[.val (.int p0), .val (.int p1), .val (.int p2), .val (.int p3), .val (.int b2_s0), .val (.int b4_s0), .val (.int b6_s0), .val (.int b8_s0), .val (.int b10_s0), .val (.ref b11), .unset, .unset, .unset, .unset] [(.int b15_s0)])) t
    refine XS.istore X15.here hx rfl (hb hby at_93) rfl (l' := #[.val (.int p0), .val (.int p1), .val (.int p2), .val (.int p3), .val (.int b2_s0), .val (.int b4_s0), .val (.int b6_s0), .val (.int b8_s0), .val (.int b10_s0), .val (.ref b11), .val (.int b15_s0), .unset, .unset, .unset]) rfl ?_
    show Steps p.tables e below (T15.setTop (mkF m 95 #[.val (.int p0), .val (.int p1), .val (.int p2), .val (.int p3), .val (.int b2_s0), .val (.int b4_s0), .val (.int b6_s0), .val (.int b8_s0), .val (.int b10_s0), .val (.ref b11), .val (.int b15_s0), .unset, .unset, .unset] [])) _
    refine XS.iload X15.here hx rfl (hb hby at_95) rfl ?_
    show Steps p.tables e below (T15.setTop (mkF m 97 #[.val (.int p0), .val (.int p1), .val (.int p2), .val (.int p3), .val (.int b2_s0), .val (.int b4_s0), .val (.int b6_s0), .val (.int b8_s0), .val (.int b10_s0), .val (.ref b11), .val (.int b15_s0), .unset, .unset, .unset] [(.int b4_s0)])) _
    exact k
  suffices w18 : ∀ (T18 : State) (L18 : List Loc) (X18 : Stand p l e room_1 s m #[(.int p0), (.int p1), (.int p2), (.int p3)] below meth c T18 L18 1 3) (e18 : T18.heap = T12.heap) (N18 : Fr n0 L18) (b18_s0 : Int32) (h_b18_s0 : b18_s0 = (if b4_s0 = (0 : Int32) then (if p2 = p0 then (1 : Int32) else (0 : Int32)) else (1 : Int32))), own_Ends p e below s n0 room_1.cells room_1.slots T18 (mkF m 110 #[.val (.int p0), .val (.int p1), .val (.int p2), .val (.int p3), .val (.int b2_s0), .val (.int b4_s0), .val (.int b6_s0), .val (.int b8_s0), .val (.int b10_s0), .val (.ref b11), .val (.int b15_s0), .unset, .unset, .unset] [(.int b18_s0)]) own_Q0 by
    by_cases hm97_16 : b4_s0 = (0 : Int32)
    · refine own_go (T' := T15) (g' := (mkF m 100 #[.val (.int p0), .val (.int p1), .val (.int p2), .val (.int p3), .val (.int b2_s0), .val (.int b4_s0), .val (.int b6_s0), .val (.int b8_s0), .val (.int b10_s0), .val (.ref b11), .val (.int b15_s0), .unset, .unset, .unset] [])) (fun t k => ?_) ?_
      · refine XS.ifNo X15.here hx rfl (hb hby at_97) rfl ((if0 _ _).trans (teq hm97_16).2) ?_
        exact k
      refine own_go (T' := T15) (g' := (mkF m 102 #[.val (.int p0), .val (.int p1), .val (.int p2), .val (.int p3), .val (.int b2_s0), .val (.int b4_s0), .val (.int b6_s0), .val (.int b8_s0), .val (.int b10_s0), .val (.ref b11), .val (.int b15_s0), .unset, .unset, .unset] [(.int p0), (.int p2)])) (fun t k => ?_) ?_
      · show Steps p.tables e below (T15.setTop (mkF m 100 #[.val (.int p0), .val (.int p1), .val (.int p2), .val (.int p3), .val (.int b2_s0), .val (.int b4_s0), .val (.int b6_s0), .val (.int b8_s0), .val (.int b10_s0), .val (.ref b11), .val (.int b15_s0), .unset, .unset, .unset] [])) t
        refine XS.iloadN X15.here hx rfl (hb hby at_100) rfl ?_
        show Steps p.tables e below (T15.setTop (mkF m 101 #[.val (.int p0), .val (.int p1), .val (.int p2), .val (.int p3), .val (.int b2_s0), .val (.int b4_s0), .val (.int b6_s0), .val (.int b8_s0), .val (.int b10_s0), .val (.ref b11), .val (.int b15_s0), .unset, .unset, .unset] [(.int p2)])) _
        refine XS.iloadN X15.here hx rfl (hb hby at_101) rfl ?_
        show Steps p.tables e below (T15.setTop (mkF m 102 #[.val (.int p0), .val (.int p1), .val (.int p2), .val (.int p3), .val (.int b2_s0), .val (.int b4_s0), .val (.int b6_s0), .val (.int b8_s0), .val (.int b10_s0), .val (.ref b11), .val (.int b15_s0), .unset, .unset, .unset] [(.int p0), (.int p2)])) _
        exact k
      by_cases hm102_17 : p2 = p0
      · refine own_go (T' := T15) (g' := (mkF m 105 #[.val (.int p0), .val (.int p1), .val (.int p2), .val (.int p3), .val (.int b2_s0), .val (.int b4_s0), .val (.int b6_s0), .val (.int b8_s0), .val (.int b10_s0), .val (.ref b11), .val (.int b15_s0), .unset, .unset, .unset] [])) (fun t k => ?_) ?_
        · refine XS.icmpNo X15.here hx rfl (hb hby at_102) rfl (teq hm102_17).2 ?_
          exact k
        refine own_go (T' := T15) (g' := (mkF m 110 #[.val (.int p0), .val (.int p1), .val (.int p2), .val (.int p3), .val (.int b2_s0), .val (.int b4_s0), .val (.int b6_s0), .val (.int b8_s0), .val (.int b10_s0), .val (.ref b11), .val (.int b15_s0), .unset, .unset, .unset] [(.int (1 : Int32))])) (fun t k => ?_) ?_
        · show Steps p.tables e below (T15.setTop (mkF m 105 #[.val (.int p0), .val (.int p1), .val (.int p2), .val (.int p3), .val (.int b2_s0), .val (.int b4_s0), .val (.int b6_s0), .val (.int b8_s0), .val (.int b10_s0), .val (.ref b11), .val (.int b15_s0), .unset, .unset, .unset] [])) t
          refine XS.iconst X15.here hx rfl (hb hby at_105) ?_
          show Steps p.tables e below (T15.setTop (mkF m 106 #[.val (.int p0), .val (.int p1), .val (.int p2), .val (.int p3), .val (.int b2_s0), .val (.int b4_s0), .val (.int b6_s0), .val (.int b8_s0), .val (.int b10_s0), .val (.ref b11), .val (.int b15_s0), .unset, .unset, .unset] [(.int (1 : Int32))])) _
          refine XS.goto X15.here hx rfl (pc0 := 106) (pc' := 110) rfl (hb hby at_106) (by decide) (by decide) ?_
          show Steps p.tables e below (T15.setTop (mkF m 110 #[.val (.int p0), .val (.int p1), .val (.int p2), .val (.int p3), .val (.int b2_s0), .val (.int b4_s0), .val (.int b6_s0), .val (.int b8_s0), .val (.int b10_s0), .val (.ref b11), .val (.int b15_s0), .unset, .unset, .unset] [(.int (1 : Int32))])) _
          exact k
        exact w18 _ _ X15 e15 N15 (1 : Int32) (by rw [if_pos hm97_16, if_pos hm102_17])
      · refine own_go (T' := T15) (g' := (mkF m 109 #[.val (.int p0), .val (.int p1), .val (.int p2), .val (.int p3), .val (.int b2_s0), .val (.int b4_s0), .val (.int b6_s0), .val (.int b8_s0), .val (.int b10_s0), .val (.ref b11), .val (.int b15_s0), .unset, .unset, .unset] [])) (fun t k => ?_) ?_
        · refine XS.icmpYes X15.here hx rfl (pc0 := 102) (pc' := 109) rfl (hb hby at_102) rfl (feq hm102_17).2 (by decide) (by decide) ?_
          exact k
        refine own_go (T' := T15) (g' := (mkF m 110 #[.val (.int p0), .val (.int p1), .val (.int p2), .val (.int p3), .val (.int b2_s0), .val (.int b4_s0), .val (.int b6_s0), .val (.int b8_s0), .val (.int b10_s0), .val (.ref b11), .val (.int b15_s0), .unset, .unset, .unset] [(.int (0 : Int32))])) (fun t k => ?_) ?_
        · show Steps p.tables e below (T15.setTop (mkF m 109 #[.val (.int p0), .val (.int p1), .val (.int p2), .val (.int p3), .val (.int b2_s0), .val (.int b4_s0), .val (.int b6_s0), .val (.int b8_s0), .val (.int b10_s0), .val (.ref b11), .val (.int b15_s0), .unset, .unset, .unset] [])) t
          refine XS.iconst X15.here hx rfl (hb hby at_109) ?_
          show Steps p.tables e below (T15.setTop (mkF m 110 #[.val (.int p0), .val (.int p1), .val (.int p2), .val (.int p3), .val (.int b2_s0), .val (.int b4_s0), .val (.int b6_s0), .val (.int b8_s0), .val (.int b10_s0), .val (.ref b11), .val (.int b15_s0), .unset, .unset, .unset] [(.int (0 : Int32))])) _
          exact k
        exact w18 _ _ X15 e15 N15 (0 : Int32) (by rw [if_pos hm97_16, if_neg hm102_17])
    · refine own_go (T' := T15) (g' := (mkF m 105 #[.val (.int p0), .val (.int p1), .val (.int p2), .val (.int p3), .val (.int b2_s0), .val (.int b4_s0), .val (.int b6_s0), .val (.int b8_s0), .val (.int b10_s0), .val (.ref b11), .val (.int b15_s0), .unset, .unset, .unset] [])) (fun t k => ?_) ?_
      · refine XS.ifYes X15.here hx rfl (pc0 := 97) (pc' := 105) rfl (hb hby at_97) rfl ((if0 _ _).trans (feq hm97_16).2) (by decide) (by decide) ?_
        exact k
      refine own_go (T' := T15) (g' := (mkF m 110 #[.val (.int p0), .val (.int p1), .val (.int p2), .val (.int p3), .val (.int b2_s0), .val (.int b4_s0), .val (.int b6_s0), .val (.int b8_s0), .val (.int b10_s0), .val (.ref b11), .val (.int b15_s0), .unset, .unset, .unset] [(.int (1 : Int32))])) (fun t k => ?_) ?_
      · show Steps p.tables e below (T15.setTop (mkF m 105 #[.val (.int p0), .val (.int p1), .val (.int p2), .val (.int p3), .val (.int b2_s0), .val (.int b4_s0), .val (.int b6_s0), .val (.int b8_s0), .val (.int b10_s0), .val (.ref b11), .val (.int b15_s0), .unset, .unset, .unset] [])) t
        refine XS.iconst X15.here hx rfl (hb hby at_105) ?_
        show Steps p.tables e below (T15.setTop (mkF m 106 #[.val (.int p0), .val (.int p1), .val (.int p2), .val (.int p3), .val (.int b2_s0), .val (.int b4_s0), .val (.int b6_s0), .val (.int b8_s0), .val (.int b10_s0), .val (.ref b11), .val (.int b15_s0), .unset, .unset, .unset] [(.int (1 : Int32))])) _
        refine XS.goto X15.here hx rfl (pc0 := 106) (pc' := 110) rfl (hb hby at_106) (by decide) (by decide) ?_
        show Steps p.tables e below (T15.setTop (mkF m 110 #[.val (.int p0), .val (.int p1), .val (.int p2), .val (.int p3), .val (.int b2_s0), .val (.int b4_s0), .val (.int b6_s0), .val (.int b8_s0), .val (.int b10_s0), .val (.ref b11), .val (.int b15_s0), .unset, .unset, .unset] [(.int (1 : Int32))])) _
        exact k
      exact w18 _ _ X15 e15 N15 (1 : Int32) (by rw [if_neg hm97_16])
  intro T18 L18 X18 e18 N18 b18_s0 h_b18_s0
  refine own_go (T' := T18) (g' := (mkF m 114 #[.val (.int p0), .val (.int p1), .val (.int p2), .val (.int p3), .val (.int b2_s0), .val (.int b4_s0), .val (.int b6_s0), .val (.int b8_s0), .val (.int b10_s0), .val (.ref b11), .val (.int b15_s0), .val (.int b18_s0), .unset, .unset] [(.int b15_s0)])) (fun t k => ?_) ?_
  · show Steps p.tables e below (T18.setTop (mkF m 110 #[.val (.int p0), .val (.int p1), .val (.int p2), .val (.int p3), .val (.int b2_s0), .val (.int b4_s0), .val (.int b6_s0), .val (.int b8_s0), .val (.int b10_s0), .val (.ref b11), .val (.int b15_s0), .unset, .unset, .unset] [(.int b18_s0)])) t
    refine XS.istore X18.here hx rfl (hb hby at_110) rfl (l' := #[.val (.int p0), .val (.int p1), .val (.int p2), .val (.int p3), .val (.int b2_s0), .val (.int b4_s0), .val (.int b6_s0), .val (.int b8_s0), .val (.int b10_s0), .val (.ref b11), .val (.int b15_s0), .val (.int b18_s0), .unset, .unset]) rfl ?_
    show Steps p.tables e below (T18.setTop (mkF m 112 #[.val (.int p0), .val (.int p1), .val (.int p2), .val (.int p3), .val (.int b2_s0), .val (.int b4_s0), .val (.int b6_s0), .val (.int b8_s0), .val (.int b10_s0), .val (.ref b11), .val (.int b15_s0), .val (.int b18_s0), .unset, .unset] [])) _
    refine XS.iload X18.here hx rfl (hb hby at_112) rfl ?_
    show Steps p.tables e below (T18.setTop (mkF m 114 #[.val (.int p0), .val (.int p1), .val (.int p2), .val (.int p3), .val (.int b2_s0), .val (.int b4_s0), .val (.int b6_s0), .val (.int b8_s0), .val (.int b10_s0), .val (.ref b11), .val (.int b15_s0), .val (.int b18_s0), .unset, .unset] [(.int b15_s0)])) _
    exact k
  suffices w22 : ∀ (T22 : State) (L22 : List Loc) (X22 : Stand p l e room_1 s m #[(.int p0), (.int p1), (.int p2), (.int p3)] below meth c T22 L22 1 3) (e22 : T22.heap = T12.heap) (N22 : Fr n0 L22) (b22_s0 : Int32) (h_b22_s0 : b22_s0 = (if b15_s0 = (0 : Int32) then (0 : Int32) else (if b18_s0 = (0 : Int32) then (0 : Int32) else (if b6_s0 = (0 : Int32) then (1 : Int32) else (0 : Int32))))), own_Ends p e below s n0 room_1.cells room_1.slots T22 (mkF m 132 #[.val (.int p0), .val (.int p1), .val (.int p2), .val (.int p3), .val (.int b2_s0), .val (.int b4_s0), .val (.int b6_s0), .val (.int b8_s0), .val (.int b10_s0), .val (.ref b11), .val (.int b15_s0), .val (.int b18_s0), .unset, .unset] [(.int b22_s0)]) own_Q0 by
    by_cases hm114_19 : b15_s0 = (0 : Int32)
    · refine own_go (T' := T18) (g' := (mkF m 131 #[.val (.int p0), .val (.int p1), .val (.int p2), .val (.int p3), .val (.int b2_s0), .val (.int b4_s0), .val (.int b6_s0), .val (.int b8_s0), .val (.int b10_s0), .val (.ref b11), .val (.int b15_s0), .val (.int b18_s0), .unset, .unset] [])) (fun t k => ?_) ?_
      · refine XS.ifYes X18.here hx rfl (pc0 := 114) (pc' := 131) rfl (hb hby at_114) rfl ((if0 _ _).trans (teq hm114_19).1) (by decide) (by decide) ?_
        exact k
      refine own_go (T' := T18) (g' := (mkF m 132 #[.val (.int p0), .val (.int p1), .val (.int p2), .val (.int p3), .val (.int b2_s0), .val (.int b4_s0), .val (.int b6_s0), .val (.int b8_s0), .val (.int b10_s0), .val (.ref b11), .val (.int b15_s0), .val (.int b18_s0), .unset, .unset] [(.int (0 : Int32))])) (fun t k => ?_) ?_
      · show Steps p.tables e below (T18.setTop (mkF m 131 #[.val (.int p0), .val (.int p1), .val (.int p2), .val (.int p3), .val (.int b2_s0), .val (.int b4_s0), .val (.int b6_s0), .val (.int b8_s0), .val (.int b10_s0), .val (.ref b11), .val (.int b15_s0), .val (.int b18_s0), .unset, .unset] [])) t
        refine XS.iconst X18.here hx rfl (hb hby at_131) ?_
        show Steps p.tables e below (T18.setTop (mkF m 132 #[.val (.int p0), .val (.int p1), .val (.int p2), .val (.int p3), .val (.int b2_s0), .val (.int b4_s0), .val (.int b6_s0), .val (.int b8_s0), .val (.int b10_s0), .val (.ref b11), .val (.int b15_s0), .val (.int b18_s0), .unset, .unset] [(.int (0 : Int32))])) _
        exact k
      exact w22 _ _ X18 e18 N18 (0 : Int32) (by rw [if_pos hm114_19])
    · refine own_go (T' := T18) (g' := (mkF m 117 #[.val (.int p0), .val (.int p1), .val (.int p2), .val (.int p3), .val (.int b2_s0), .val (.int b4_s0), .val (.int b6_s0), .val (.int b8_s0), .val (.int b10_s0), .val (.ref b11), .val (.int b15_s0), .val (.int b18_s0), .unset, .unset] [])) (fun t k => ?_) ?_
      · refine XS.ifNo X18.here hx rfl (hb hby at_114) rfl ((if0 _ _).trans (feq hm114_19).1) ?_
        exact k
      refine own_go (T' := T18) (g' := (mkF m 119 #[.val (.int p0), .val (.int p1), .val (.int p2), .val (.int p3), .val (.int b2_s0), .val (.int b4_s0), .val (.int b6_s0), .val (.int b8_s0), .val (.int b10_s0), .val (.ref b11), .val (.int b15_s0), .val (.int b18_s0), .unset, .unset] [(.int b18_s0)])) (fun t k => ?_) ?_
      · show Steps p.tables e below (T18.setTop (mkF m 117 #[.val (.int p0), .val (.int p1), .val (.int p2), .val (.int p3), .val (.int b2_s0), .val (.int b4_s0), .val (.int b6_s0), .val (.int b8_s0), .val (.int b10_s0), .val (.ref b11), .val (.int b15_s0), .val (.int b18_s0), .unset, .unset] [])) t
        refine XS.iload X18.here hx rfl (hb hby at_117) rfl ?_
        show Steps p.tables e below (T18.setTop (mkF m 119 #[.val (.int p0), .val (.int p1), .val (.int p2), .val (.int p3), .val (.int b2_s0), .val (.int b4_s0), .val (.int b6_s0), .val (.int b8_s0), .val (.int b10_s0), .val (.ref b11), .val (.int b15_s0), .val (.int b18_s0), .unset, .unset] [(.int b18_s0)])) _
        exact k
      by_cases hm119_20 : b18_s0 = (0 : Int32)
      · refine own_go (T' := T18) (g' := (mkF m 131 #[.val (.int p0), .val (.int p1), .val (.int p2), .val (.int p3), .val (.int b2_s0), .val (.int b4_s0), .val (.int b6_s0), .val (.int b8_s0), .val (.int b10_s0), .val (.ref b11), .val (.int b15_s0), .val (.int b18_s0), .unset, .unset] [])) (fun t k => ?_) ?_
        · refine XS.ifYes X18.here hx rfl (pc0 := 119) (pc' := 131) rfl (hb hby at_119) rfl ((if0 _ _).trans (teq hm119_20).1) (by decide) (by decide) ?_
          exact k
        refine own_go (T' := T18) (g' := (mkF m 132 #[.val (.int p0), .val (.int p1), .val (.int p2), .val (.int p3), .val (.int b2_s0), .val (.int b4_s0), .val (.int b6_s0), .val (.int b8_s0), .val (.int b10_s0), .val (.ref b11), .val (.int b15_s0), .val (.int b18_s0), .unset, .unset] [(.int (0 : Int32))])) (fun t k => ?_) ?_
        · show Steps p.tables e below (T18.setTop (mkF m 131 #[.val (.int p0), .val (.int p1), .val (.int p2), .val (.int p3), .val (.int b2_s0), .val (.int b4_s0), .val (.int b6_s0), .val (.int b8_s0), .val (.int b10_s0), .val (.ref b11), .val (.int b15_s0), .val (.int b18_s0), .unset, .unset] [])) t
          refine XS.iconst X18.here hx rfl (hb hby at_131) ?_
          show Steps p.tables e below (T18.setTop (mkF m 132 #[.val (.int p0), .val (.int p1), .val (.int p2), .val (.int p3), .val (.int b2_s0), .val (.int b4_s0), .val (.int b6_s0), .val (.int b8_s0), .val (.int b10_s0), .val (.ref b11), .val (.int b15_s0), .val (.int b18_s0), .unset, .unset] [(.int (0 : Int32))])) _
          exact k
        exact w22 _ _ X18 e18 N18 (0 : Int32) (by rw [if_neg hm114_19, if_pos hm119_20])
      · refine own_go (T' := T18) (g' := (mkF m 122 #[.val (.int p0), .val (.int p1), .val (.int p2), .val (.int p3), .val (.int b2_s0), .val (.int b4_s0), .val (.int b6_s0), .val (.int b8_s0), .val (.int b10_s0), .val (.ref b11), .val (.int b15_s0), .val (.int b18_s0), .unset, .unset] [])) (fun t k => ?_) ?_
        · refine XS.ifNo X18.here hx rfl (hb hby at_119) rfl ((if0 _ _).trans (feq hm119_20).1) ?_
          exact k
        refine own_go (T' := T18) (g' := (mkF m 124 #[.val (.int p0), .val (.int p1), .val (.int p2), .val (.int p3), .val (.int b2_s0), .val (.int b4_s0), .val (.int b6_s0), .val (.int b8_s0), .val (.int b10_s0), .val (.ref b11), .val (.int b15_s0), .val (.int b18_s0), .unset, .unset] [(.int b6_s0)])) (fun t k => ?_) ?_
        · show Steps p.tables e below (T18.setTop (mkF m 122 #[.val (.int p0), .val (.int p1), .val (.int p2), .val (.int p3), .val (.int b2_s0), .val (.int b4_s0), .val (.int b6_s0), .val (.int b8_s0), .val (.int b10_s0), .val (.ref b11), .val (.int b15_s0), .val (.int b18_s0), .unset, .unset] [])) t
          refine XS.iload X18.here hx rfl (hb hby at_122) rfl ?_
          show Steps p.tables e below (T18.setTop (mkF m 124 #[.val (.int p0), .val (.int p1), .val (.int p2), .val (.int p3), .val (.int b2_s0), .val (.int b4_s0), .val (.int b6_s0), .val (.int b8_s0), .val (.int b10_s0), .val (.ref b11), .val (.int b15_s0), .val (.int b18_s0), .unset, .unset] [(.int b6_s0)])) _
          exact k
        by_cases hm124_21 : b6_s0 = (0 : Int32)
        · refine own_go (T' := T18) (g' := (mkF m 127 #[.val (.int p0), .val (.int p1), .val (.int p2), .val (.int p3), .val (.int b2_s0), .val (.int b4_s0), .val (.int b6_s0), .val (.int b8_s0), .val (.int b10_s0), .val (.ref b11), .val (.int b15_s0), .val (.int b18_s0), .unset, .unset] [])) (fun t k => ?_) ?_
          · refine XS.ifNo X18.here hx rfl (hb hby at_124) rfl ((if0 _ _).trans (teq hm124_21).2) ?_
            exact k
          refine own_go (T' := T18) (g' := (mkF m 132 #[.val (.int p0), .val (.int p1), .val (.int p2), .val (.int p3), .val (.int b2_s0), .val (.int b4_s0), .val (.int b6_s0), .val (.int b8_s0), .val (.int b10_s0), .val (.ref b11), .val (.int b15_s0), .val (.int b18_s0), .unset, .unset] [(.int (1 : Int32))])) (fun t k => ?_) ?_
          · show Steps p.tables e below (T18.setTop (mkF m 127 #[.val (.int p0), .val (.int p1), .val (.int p2), .val (.int p3), .val (.int b2_s0), .val (.int b4_s0), .val (.int b6_s0), .val (.int b8_s0), .val (.int b10_s0), .val (.ref b11), .val (.int b15_s0), .val (.int b18_s0), .unset, .unset] [])) t
            refine XS.iconst X18.here hx rfl (hb hby at_127) ?_
            show Steps p.tables e below (T18.setTop (mkF m 128 #[.val (.int p0), .val (.int p1), .val (.int p2), .val (.int p3), .val (.int b2_s0), .val (.int b4_s0), .val (.int b6_s0), .val (.int b8_s0), .val (.int b10_s0), .val (.ref b11), .val (.int b15_s0), .val (.int b18_s0), .unset, .unset] [(.int (1 : Int32))])) _
            refine XS.goto X18.here hx rfl (pc0 := 128) (pc' := 132) rfl (hb hby at_128) (by decide) (by decide) ?_
            show Steps p.tables e below (T18.setTop (mkF m 132 #[.val (.int p0), .val (.int p1), .val (.int p2), .val (.int p3), .val (.int b2_s0), .val (.int b4_s0), .val (.int b6_s0), .val (.int b8_s0), .val (.int b10_s0), .val (.ref b11), .val (.int b15_s0), .val (.int b18_s0), .unset, .unset] [(.int (1 : Int32))])) _
            exact k
          exact w22 _ _ X18 e18 N18 (1 : Int32) (by rw [if_neg hm114_19, if_neg hm119_20, if_pos hm124_21])
        · refine own_go (T' := T18) (g' := (mkF m 131 #[.val (.int p0), .val (.int p1), .val (.int p2), .val (.int p3), .val (.int b2_s0), .val (.int b4_s0), .val (.int b6_s0), .val (.int b8_s0), .val (.int b10_s0), .val (.ref b11), .val (.int b15_s0), .val (.int b18_s0), .unset, .unset] [])) (fun t k => ?_) ?_
          · refine XS.ifYes X18.here hx rfl (pc0 := 124) (pc' := 131) rfl (hb hby at_124) rfl ((if0 _ _).trans (feq hm124_21).2) (by decide) (by decide) ?_
            exact k
          refine own_go (T' := T18) (g' := (mkF m 132 #[.val (.int p0), .val (.int p1), .val (.int p2), .val (.int p3), .val (.int b2_s0), .val (.int b4_s0), .val (.int b6_s0), .val (.int b8_s0), .val (.int b10_s0), .val (.ref b11), .val (.int b15_s0), .val (.int b18_s0), .unset, .unset] [(.int (0 : Int32))])) (fun t k => ?_) ?_
          · show Steps p.tables e below (T18.setTop (mkF m 131 #[.val (.int p0), .val (.int p1), .val (.int p2), .val (.int p3), .val (.int b2_s0), .val (.int b4_s0), .val (.int b6_s0), .val (.int b8_s0), .val (.int b10_s0), .val (.ref b11), .val (.int b15_s0), .val (.int b18_s0), .unset, .unset] [])) t
            refine XS.iconst X18.here hx rfl (hb hby at_131) ?_
            show Steps p.tables e below (T18.setTop (mkF m 132 #[.val (.int p0), .val (.int p1), .val (.int p2), .val (.int p3), .val (.int b2_s0), .val (.int b4_s0), .val (.int b6_s0), .val (.int b8_s0), .val (.int b10_s0), .val (.ref b11), .val (.int b15_s0), .val (.int b18_s0), .unset, .unset] [(.int (0 : Int32))])) _
            exact k
          exact w22 _ _ X18 e18 N18 (0 : Int32) (by rw [if_neg hm114_19, if_neg hm119_20, if_neg hm124_21])
  intro T22 L22 X22 e22 N22 b22_s0 h_b22_s0
  refine own_go (T' := T22) (g' := (mkF m 137 #[.val (.int p0), .val (.int p1), .val (.int p2), .val (.int p3), .val (.int b2_s0), .val (.int b4_s0), .val (.int b6_s0), .val (.int b8_s0), .val (.int b10_s0), .val (.ref b11), .val (.int b15_s0), .val (.int b18_s0), .val (.int b22_s0), .unset] [(.int p0), (.ref b11)])) (fun t k => ?_) ?_
  · show Steps p.tables e below (T22.setTop (mkF m 132 #[.val (.int p0), .val (.int p1), .val (.int p2), .val (.int p3), .val (.int b2_s0), .val (.int b4_s0), .val (.int b6_s0), .val (.int b8_s0), .val (.int b10_s0), .val (.ref b11), .val (.int b15_s0), .val (.int b18_s0), .unset, .unset] [(.int b22_s0)])) t
    refine XS.istore X22.here hx rfl (hb hby at_132) rfl (l' := #[.val (.int p0), .val (.int p1), .val (.int p2), .val (.int p3), .val (.int b2_s0), .val (.int b4_s0), .val (.int b6_s0), .val (.int b8_s0), .val (.int b10_s0), .val (.ref b11), .val (.int b15_s0), .val (.int b18_s0), .val (.int b22_s0), .unset]) rfl ?_
    show Steps p.tables e below (T22.setTop (mkF m 134 #[.val (.int p0), .val (.int p1), .val (.int p2), .val (.int p3), .val (.int b2_s0), .val (.int b4_s0), .val (.int b6_s0), .val (.int b8_s0), .val (.int b10_s0), .val (.ref b11), .val (.int b15_s0), .val (.int b18_s0), .val (.int b22_s0), .unset] [])) _
    refine XS.aload X22.here hx rfl (hb hby at_134) rfl rfl ?_
    show Steps p.tables e below (T22.setTop (mkF m 136 #[.val (.int p0), .val (.int p1), .val (.int p2), .val (.int p3), .val (.int b2_s0), .val (.int b4_s0), .val (.int b6_s0), .val (.int b8_s0), .val (.int b10_s0), .val (.ref b11), .val (.int b15_s0), .val (.int b18_s0), .val (.int b22_s0), .unset] [(.ref b11)])) _
    refine XS.iloadN X22.here hx rfl (hb hby at_136) rfl ?_
    show Steps p.tables e below (T22.setTop (mkF m 137 #[.val (.int p0), .val (.int p1), .val (.int p2), .val (.int p3), .val (.int b2_s0), .val (.int b4_s0), .val (.int b6_s0), .val (.int b8_s0), .val (.int b10_s0), .val (.ref b11), .val (.int b15_s0), .val (.int b18_s0), .val (.int b22_s0), .unset] [(.int p0), (.ref b11)])) _
    exact k
  obtain ⟨_, T23, L23, X23, N23, ⟨rfl, e23⟩, st23⟩ := own_callV X22 hx hZ hown (hw _ (List.mem_of_getElem? (i := 20) rfl)) (hw _ (List.mem_of_getElem? (i := 21) rfl)) (hw _ (List.mem_of_getElem? (i := 23) rfl)) (hw _ (List.mem_of_getElem? (i := 22) rfl)) (hw _ (List.mem_of_getElem? (i := 2) rfl)) (hw _ (List.mem_of_getElem? (i := 24) rfl)) (by decide) (a := b11) (argsL := [(.int p0)]) (rest := []) (rm4 l Z a0 hw b11 p0 b8_s0 b10_s0 (nar .boolean b6_s0) T12.heap n0 E12 F12a F12b F12c) (W := 0) (by decide) (by decide) E12 (g := (mkF m 137 #[.val (.int p0), .val (.int p1), .val (.int p2), .val (.int p3), .val (.int b2_s0), .val (.int b4_s0), .val (.int b6_s0), .val (.int b8_s0), .val (.int b10_s0), .val (.ref b11), .val (.int b15_s0), .val (.int b18_s0), .val (.int b22_s0), .unset] [(.int p0), (.ref b11)])) rfl (by rw [hml]; rfl) pd_2 rfl rfl (by show 2 * 0 + _ ≤ _; exact Nat.le_of_eq rfl) (hb hby at_137) e22 (by decide) (by decide) N22
  refine own_go (T' := T23) (g' := (mkF m 140 #[.val (.int p0), .val (.int p1), .val (.int p2), .val (.int p3), .val (.int b2_s0), .val (.int b4_s0), .val (.int b6_s0), .val (.int b8_s0), .val (.int b10_s0), .val (.ref b11), .val (.int b15_s0), .val (.int b18_s0), .val (.int b22_s0), .unset] [(.int (own_only b8_s0 b10_s0 (nar .boolean b6_s0) p0))])) st23 ?_
  refine own_go (T' := T23) (g' := (mkF m 146 #[.val (.int p0), .val (.int p1), .val (.int p2), .val (.int p3), .val (.int b2_s0), .val (.int b4_s0), .val (.int b6_s0), .val (.int b8_s0), .val (.int b10_s0), .val (.ref b11), .val (.int b15_s0), .val (.int b18_s0), .val (.int b22_s0), .val (.int (own_only b8_s0 b10_s0 (nar .boolean b6_s0) p0))] [(.int b22_s0), (.int (own_only b8_s0 b10_s0 (nar .boolean b6_s0) p0))])) (fun t k => ?_) ?_
  · show Steps p.tables e below (T23.setTop (mkF m 140 #[.val (.int p0), .val (.int p1), .val (.int p2), .val (.int p3), .val (.int b2_s0), .val (.int b4_s0), .val (.int b6_s0), .val (.int b8_s0), .val (.int b10_s0), .val (.ref b11), .val (.int b15_s0), .val (.int b18_s0), .val (.int b22_s0), .unset] [(.int (own_only b8_s0 b10_s0 (nar .boolean b6_s0) p0))])) t
    refine XS.istore X23.here hx rfl (hb hby at_140) rfl (l' := #[.val (.int p0), .val (.int p1), .val (.int p2), .val (.int p3), .val (.int b2_s0), .val (.int b4_s0), .val (.int b6_s0), .val (.int b8_s0), .val (.int b10_s0), .val (.ref b11), .val (.int b15_s0), .val (.int b18_s0), .val (.int b22_s0), .val (.int (own_only b8_s0 b10_s0 (nar .boolean b6_s0) p0))]) rfl ?_
    show Steps p.tables e below (T23.setTop (mkF m 142 #[.val (.int p0), .val (.int p1), .val (.int p2), .val (.int p3), .val (.int b2_s0), .val (.int b4_s0), .val (.int b6_s0), .val (.int b8_s0), .val (.int b10_s0), .val (.ref b11), .val (.int b15_s0), .val (.int b18_s0), .val (.int b22_s0), .val (.int (own_only b8_s0 b10_s0 (nar .boolean b6_s0) p0))] [])) _
    refine XS.iload X23.here hx rfl (hb hby at_142) rfl ?_
    show Steps p.tables e below (T23.setTop (mkF m 144 #[.val (.int p0), .val (.int p1), .val (.int p2), .val (.int p3), .val (.int b2_s0), .val (.int b4_s0), .val (.int b6_s0), .val (.int b8_s0), .val (.int b10_s0), .val (.ref b11), .val (.int b15_s0), .val (.int b18_s0), .val (.int b22_s0), .val (.int (own_only b8_s0 b10_s0 (nar .boolean b6_s0) p0))] [(.int (own_only b8_s0 b10_s0 (nar .boolean b6_s0) p0))])) _
    refine XS.iload X23.here hx rfl (hb hby at_144) rfl ?_
    show Steps p.tables e below (T23.setTop (mkF m 146 #[.val (.int p0), .val (.int p1), .val (.int p2), .val (.int p3), .val (.int b2_s0), .val (.int b4_s0), .val (.int b6_s0), .val (.int b8_s0), .val (.int b10_s0), .val (.ref b11), .val (.int b15_s0), .val (.int b18_s0), .val (.int b22_s0), .val (.int (own_only b8_s0 b10_s0 (nar .boolean b6_s0) p0))] [(.int b22_s0), (.int (own_only b8_s0 b10_s0 (nar .boolean b6_s0) p0))])) _
    exact k
  refine own_go (T' := T23) (g' := (mkF m 153 #[.val (.int p0), .val (.int p1), .val (.int p2), .val (.int p3), .val (.int b2_s0), .val (.int b4_s0), .val (.int b6_s0), .val (.int b8_s0), .val (.int b10_s0), .val (.ref b11), .val (.int b15_s0), .val (.int b18_s0), .val (.int b22_s0), .val (.int (own_only b8_s0 b10_s0 (nar .boolean b6_s0) p0))] [(.int (own_only b8_s0 b10_s0 (nar .boolean b6_s0) p0))])) (fun t k => ?_) ?_
  · show Steps p.tables e below (T23.setTop (mkF m 146 #[.val (.int p0), .val (.int p1), .val (.int p2), .val (.int p3), .val (.int b2_s0), .val (.int b4_s0), .val (.int b6_s0), .val (.int b8_s0), .val (.int b10_s0), .val (.ref b11), .val (.int b15_s0), .val (.int b18_s0), .val (.int b22_s0), .val (.int (own_only b8_s0 b10_s0 (nar .boolean b6_s0) p0))] [(.int b22_s0), (.int (own_only b8_s0 b10_s0 (nar .boolean b6_s0) p0))])) t
    refine XS.icmpYes X23.here hx rfl (pc0 := 146) (pc' := 151) rfl (hb hby at_146) rfl (teq (own_l1 p0 p1 p2 p3 b2_s0 b4_s0 b6_s0 b8_s0 b10_s0 b15_s0 b18_s0 b22_s0 h_b2_s0 h_b4_s0 h_b6_s0 h_b8_s0 h_b10_s0 h_b15_s0 h_b18_s0 h_b22_s0)).1 (by decide) (by decide) ?_
    show Steps p.tables e below (T23.setTop (mkF m 151 #[.val (.int p0), .val (.int p1), .val (.int p2), .val (.int p3), .val (.int b2_s0), .val (.int b4_s0), .val (.int b6_s0), .val (.int b8_s0), .val (.int b10_s0), .val (.ref b11), .val (.int b15_s0), .val (.int b18_s0), .val (.int b22_s0), .val (.int (own_only b8_s0 b10_s0 (nar .boolean b6_s0) p0))] [])) _
    refine XS.iload X23.here hx rfl (hb hby at_151) rfl ?_
    show Steps p.tables e below (T23.setTop (mkF m 153 #[.val (.int p0), .val (.int p1), .val (.int p2), .val (.int p3), .val (.int b2_s0), .val (.int b4_s0), .val (.int b6_s0), .val (.int b8_s0), .val (.int b10_s0), .val (.ref b11), .val (.int b15_s0), .val (.int b18_s0), .val (.int b22_s0), .val (.int (own_only b8_s0 b10_s0 (nar .boolean b6_s0) p0))] [(.int (own_only b8_s0 b10_s0 (nar .boolean b6_s0) p0))])) _
    exact k
  by_cases hc153_24 : (own_only b8_s0 b10_s0 (nar .boolean b6_s0) p0) = (0 : Int32)
  · refine own_go (T' := T23) (g' := (mkF m 169 #[.val (.int p0), .val (.int p1), .val (.int p2), .val (.int p3), .val (.int b2_s0), .val (.int b4_s0), .val (.int b6_s0), .val (.int b8_s0), .val (.int b10_s0), .val (.ref b11), .val (.int b15_s0), .val (.int b18_s0), .val (.int b22_s0), .val (.int (own_only b8_s0 b10_s0 (nar .boolean b6_s0) p0))] [])) (fun t k => ?_) ?_
    · refine XS.ifYes X23.here hx rfl (pc0 := 153) (pc' := 169) rfl (hb hby at_153) rfl ((if0 _ _).trans (teq hc153_24).1) (by decide) (by decide) ?_
      exact k
    refine own_go (T' := T23) (g' := (mkF m 170 #[.val (.int p0), .val (.int p1), .val (.int p2), .val (.int p3), .val (.int b2_s0), .val (.int b4_s0), .val (.int b6_s0), .val (.int b8_s0), .val (.int b10_s0), .val (.ref b11), .val (.int b15_s0), .val (.int b18_s0), .val (.int b22_s0), .val (.int (own_only b8_s0 b10_s0 (nar .boolean b6_s0) p0))] [(.int (1 : Int32))])) (fun t k => ?_) ?_
    · show Steps p.tables e below (T23.setTop (mkF m 169 #[.val (.int p0), .val (.int p1), .val (.int p2), .val (.int p3), .val (.int b2_s0), .val (.int b4_s0), .val (.int b6_s0), .val (.int b8_s0), .val (.int b10_s0), .val (.ref b11), .val (.int b15_s0), .val (.int b18_s0), .val (.int b22_s0), .val (.int (own_only b8_s0 b10_s0 (nar .boolean b6_s0) p0))] [])) t
      refine XS.iconst X23.here hx rfl (hb hby at_169) ?_
      show Steps p.tables e below (T23.setTop (mkF m 170 #[.val (.int p0), .val (.int p1), .val (.int p2), .val (.int p3), .val (.int b2_s0), .val (.int b4_s0), .val (.int b6_s0), .val (.int b8_s0), .val (.int b10_s0), .val (.ref b11), .val (.int b15_s0), .val (.int b18_s0), .val (.int b22_s0), .val (.int (own_only b8_s0 b10_s0 (nar .boolean b6_s0) p0))] [(.int (1 : Int32))])) _
      exact k
    exact own_retN X23 hx hlk hret (by simp) (hb hby at_170) (by decide) (by decide) N23 ⟨rfl, trivial⟩
  · refine own_go (T' := T23) (g' := (mkF m 156 #[.val (.int p0), .val (.int p1), .val (.int p2), .val (.int p3), .val (.int b2_s0), .val (.int b4_s0), .val (.int b6_s0), .val (.int b8_s0), .val (.int b10_s0), .val (.ref b11), .val (.int b15_s0), .val (.int b18_s0), .val (.int b22_s0), .val (.int (own_only b8_s0 b10_s0 (nar .boolean b6_s0) p0))] [])) (fun t k => ?_) ?_
    · refine XS.ifNo X23.here hx rfl (hb hby at_153) rfl ((if0 _ _).trans (feq hc153_24).1) ?_
      exact k
    refine own_go (T' := T23) (g' := (mkF m 161 #[.val (.int p0), .val (.int p1), .val (.int p2), .val (.int p3), .val (.int b2_s0), .val (.int b4_s0), .val (.int b6_s0), .val (.int b8_s0), .val (.int b10_s0), .val (.ref b11), .val (.int b15_s0), .val (.int b18_s0), .val (.int b22_s0), .val (.int (own_only b8_s0 b10_s0 (nar .boolean b6_s0) p0))] [(.int (p0 ^^^ (1 : Int32))), (.ref b11)])) (fun t k => ?_) ?_
    · show Steps p.tables e below (T23.setTop (mkF m 156 #[.val (.int p0), .val (.int p1), .val (.int p2), .val (.int p3), .val (.int b2_s0), .val (.int b4_s0), .val (.int b6_s0), .val (.int b8_s0), .val (.int b10_s0), .val (.ref b11), .val (.int b15_s0), .val (.int b18_s0), .val (.int b22_s0), .val (.int (own_only b8_s0 b10_s0 (nar .boolean b6_s0) p0))] [])) t
      refine XS.aload X23.here hx rfl (hb hby at_156) rfl rfl ?_
      show Steps p.tables e below (T23.setTop (mkF m 158 #[.val (.int p0), .val (.int p1), .val (.int p2), .val (.int p3), .val (.int b2_s0), .val (.int b4_s0), .val (.int b6_s0), .val (.int b8_s0), .val (.int b10_s0), .val (.ref b11), .val (.int b15_s0), .val (.int b18_s0), .val (.int b22_s0), .val (.int (own_only b8_s0 b10_s0 (nar .boolean b6_s0) p0))] [(.ref b11)])) _
      refine XS.iloadN X23.here hx rfl (hb hby at_158) rfl ?_
      show Steps p.tables e below (T23.setTop (mkF m 159 #[.val (.int p0), .val (.int p1), .val (.int p2), .val (.int p3), .val (.int b2_s0), .val (.int b4_s0), .val (.int b6_s0), .val (.int b8_s0), .val (.int b10_s0), .val (.ref b11), .val (.int b15_s0), .val (.int b18_s0), .val (.int b22_s0), .val (.int (own_only b8_s0 b10_s0 (nar .boolean b6_s0) p0))] [(.int p0), (.ref b11)])) _
      refine XS.iconst X23.here hx rfl (hb hby at_159) ?_
      show Steps p.tables e below (T23.setTop (mkF m 160 #[.val (.int p0), .val (.int p1), .val (.int p2), .val (.int p3), .val (.int b2_s0), .val (.int b4_s0), .val (.int b6_s0), .val (.int b8_s0), .val (.int b10_s0), .val (.ref b11), .val (.int b15_s0), .val (.int b18_s0), .val (.int b22_s0), .val (.int (own_only b8_s0 b10_s0 (nar .boolean b6_s0) p0))] [(.int (1 : Int32)), (.int p0), (.ref b11)])) _
      refine XS.ixor X23.here hx rfl (hb hby at_160) rfl ?_
      show Steps p.tables e below (T23.setTop (mkF m 161 #[.val (.int p0), .val (.int p1), .val (.int p2), .val (.int p3), .val (.int b2_s0), .val (.int b4_s0), .val (.int b6_s0), .val (.int b8_s0), .val (.int b10_s0), .val (.ref b11), .val (.int b15_s0), .val (.int b18_s0), .val (.int b22_s0), .val (.int (own_only b8_s0 b10_s0 (nar .boolean b6_s0) p0))] [(.int (p0 ^^^ (1 : Int32))), (.ref b11)])) _
      exact k
    obtain ⟨_, T25, L25, X25, N25, ⟨rfl, e25⟩, st25⟩ := own_callV X23 hx hZ hown (hw _ (List.mem_of_getElem? (i := 20) rfl)) (hw _ (List.mem_of_getElem? (i := 21) rfl)) (hw _ (List.mem_of_getElem? (i := 23) rfl)) (hw _ (List.mem_of_getElem? (i := 22) rfl)) (hw _ (List.mem_of_getElem? (i := 2) rfl)) (hw _ (List.mem_of_getElem? (i := 24) rfl)) (by decide) (a := b11) (argsL := [(.int (p0 ^^^ (1 : Int32)))]) (rest := []) (rm4 l Z a0 hw b11 (p0 ^^^ (1 : Int32)) b8_s0 b10_s0 (nar .boolean b6_s0) T12.heap n0 E12 F12a F12b F12c) (W := 0) (by decide) (by decide) E12 (g := (mkF m 161 #[.val (.int p0), .val (.int p1), .val (.int p2), .val (.int p3), .val (.int b2_s0), .val (.int b4_s0), .val (.int b6_s0), .val (.int b8_s0), .val (.int b10_s0), .val (.ref b11), .val (.int b15_s0), .val (.int b18_s0), .val (.int b22_s0), .val (.int (own_only b8_s0 b10_s0 (nar .boolean b6_s0) p0))] [(.int (p0 ^^^ (1 : Int32))), (.ref b11)])) rfl (by rw [hml]; rfl) pd_2 rfl rfl (by show 2 * 0 + _ ≤ _; exact Nat.le_of_eq rfl) (hb hby at_161) e23 (by decide) (by decide) N23
    refine own_go (T' := T25) (g' := (mkF m 164 #[.val (.int p0), .val (.int p1), .val (.int p2), .val (.int p3), .val (.int b2_s0), .val (.int b4_s0), .val (.int b6_s0), .val (.int b8_s0), .val (.int b10_s0), .val (.ref b11), .val (.int b15_s0), .val (.int b18_s0), .val (.int b22_s0), .val (.int (own_only b8_s0 b10_s0 (nar .boolean b6_s0) p0))] [(.int (own_only b8_s0 b10_s0 (nar .boolean b6_s0) (p0 ^^^ (1 : Int32))))])) st25 ?_
    refine own_go (T' := T25) (g' := (mkF m 170 #[.val (.int p0), .val (.int p1), .val (.int p2), .val (.int p3), .val (.int b2_s0), .val (.int b4_s0), .val (.int b6_s0), .val (.int b8_s0), .val (.int b10_s0), .val (.ref b11), .val (.int b15_s0), .val (.int b18_s0), .val (.int b22_s0), .val (.int (own_only b8_s0 b10_s0 (nar .boolean b6_s0) p0))] [(.int (1 : Int32))])) (fun t k => ?_) ?_
    · show Steps p.tables e below (T25.setTop (mkF m 164 #[.val (.int p0), .val (.int p1), .val (.int p2), .val (.int p3), .val (.int b2_s0), .val (.int b4_s0), .val (.int b6_s0), .val (.int b8_s0), .val (.int b10_s0), .val (.ref b11), .val (.int b15_s0), .val (.int b18_s0), .val (.int b22_s0), .val (.int (own_only b8_s0 b10_s0 (nar .boolean b6_s0) p0))] [(.int (own_only b8_s0 b10_s0 (nar .boolean b6_s0) (p0 ^^^ (1 : Int32))))])) t
      refine XS.ifYes X25.here hx rfl (pc0 := 164) (pc' := 169) rfl (hb hby at_164) rfl ((if0 _ _).trans (teq (own_l2 hc153_24)).1) (by decide) (by decide) ?_
      show Steps p.tables e below (T25.setTop (mkF m 169 #[.val (.int p0), .val (.int p1), .val (.int p2), .val (.int p3), .val (.int b2_s0), .val (.int b4_s0), .val (.int b6_s0), .val (.int b8_s0), .val (.int b10_s0), .val (.ref b11), .val (.int b15_s0), .val (.int b18_s0), .val (.int b22_s0), .val (.int (own_only b8_s0 b10_s0 (nar .boolean b6_s0) p0))] [])) _
      refine XS.iconst X25.here hx rfl (hb hby at_169) ?_
      show Steps p.tables e below (T25.setTop (mkF m 170 #[.val (.int p0), .val (.int p1), .val (.int p2), .val (.int p3), .val (.int b2_s0), .val (.int b4_s0), .val (.int b6_s0), .val (.int b8_s0), .val (.int b10_s0), .val (.ref b11), .val (.int b15_s0), .val (.int b18_s0), .val (.int b22_s0), .val (.int (own_only b8_s0 b10_s0 (nar .boolean b6_s0) p0))] [(.int (1 : Int32))])) _
      exact k
    exact own_retN X25 hx hlk hret (by simp) (hb hby at_170) (by decide) (by decide) N25 ⟨rfl, trivial⟩
set_option maxRecDepth 65536 in
set_option maxHeartbeats 40000000 in
theorem comes_1 {Post : Tables → Env → Array Value → State → Outcome → State → Prop} (hpost : ∀ tb e args s v u, (limb_1_1.after args s (.returned v) u = true ∧ limb_1_2.after args s (.returned v) u = true ∧ True) → FrameEnd s (.returned v) u (Jvm.fieldLocs frame_1_writes args s ++ Jvm.arrayLocs frame_1_arrays args s ++ Jvm.staticLocs frame_1_statics s) 16 128 → Post tb e args s (.returned v) u) :
    ArmFor flags0 classFile x code maxLocals ret World_1 tables_1 room_1 Calls_1 rest_1 Pre_1 Post := by
  intro l hfl _ _ p e ha hc hk s m args below hf hA hF happ hP
  obtain ⟨hcalls, hrest, hpre⟩ := hP
  obtain ⟨-, -, -, hnamed, -, -, -, hat⟩ := (Spec.applies_iff hf).mp happ
  obtain ⟨hg, hn⟩ := and_e (Cond.before_iff.mp (show (Jvm.Cond.and given_1 narrow_1).before args s = true from hpre))
  obtain ⟨h1, g0⟩ := and_e hg
  obtain ⟨k0, g1⟩ := and_e g0
  obtain ⟨k1, g2⟩ := and_e g1
  obtain ⟨k2, g3⟩ := and_e g2
  have k3 := g3
  obtain ⟨w0, w1, w2, w3, rfl⟩ : ∃ w0 w1 w2 w3 : Value, args = #[w0, w1, w2, w3] := by
    have hs : args.size = 4 := by simpa [Cond.value, given_1] using h1
    obtain ⟨L⟩ := args
    match L, hs with
    | [w0, w1, w2, w3], _ => exact ⟨w0, w1, w2, w3, rfl⟩
  have hw := fun d (hd : d ∈ tables_1) => atoms_spec (ws := Jvm.Cond.code x code maxLocals ret :: tables_1) hat d (List.mem_cons_of_mem _ hd)
  obtain ⟨i0, e0⟩ := is_v k0
  obtain rfl : w0 = (.int i0) := Option.some.inj e0
  obtain ⟨i1, e1⟩ := is_v k1
  obtain rfl : w1 = (.int i1) := Option.some.inj e1
  obtain ⟨i2, e2⟩ := is_v k2
  obtain rfl : w2 = (.int i2) := Option.some.inj e2
  obtain ⟨i3, e3⟩ := is_v k3
  obtain rfl : w3 = (.int i3) := Option.some.inj e3
  obtain ⟨n, o, h1, h2, h3, v, L, rfl, ⟨N, hv⟩, hq⟩ := rm0 l s _ hw i0 i1 i2 i3 s.heap s.heap.size (Nat.le_refl _) p e ha hc hk s m _ below hf ((Spec.applies_iff_loose hf).mp happ).1 ⟨rfl, State.Warmed39.refl s, rfl⟩ trivial
  obtain rfl : v = some (.int 1) := hv.1
  refine ⟨n, _, h1, h2, h3, hpost _ _ _ _ _ _ ⟨Cond.after_iff.mpr rfl, Cond.after_iff.mpr (eq_i res_at (Term.int_eval (1)) rfl), trivial⟩ ⟨hq.1, hq.2.1, (hq.2.2.sift fun y hy => Or.inr (N y hy)).mono (by decide) (by decide)⟩⟩
theorem main_1_1 : Claimed_1_1 := comes_1 fun _ _ _ _ _ _ h hF => ⟨h.1, hF⟩
theorem main_1_2 : Claimed_1_2 := comes_1 fun _ _ _ _ _ _ h hF => ⟨h.2.1, hF⟩
end Jvm.Pilot.@@N@@
namespace Jvm.Pilot.@@N@@
open Jvm Jvm.ClassFile Sem Op Lib Jvm.Free Jvm.Stand Jvm.Pilot.@@N@@.Jvm.D
/-! MADE BY PROGRAM (witnessworld.py) out of the Statement's table words and the real class files: 10 classes; the members and pool entries that the words name. The judged class is class 1, her method 1. -/
namespace start1
open Jvm.ClassFile
def u (s : String) : CpInfo := .utf8 (stringToUtf16 s)
/-- a pool by its gaps: so many unusable entries, then the entry; so many at the end -/
def gap : Nat → List CpInfo → List CpInfo
  | 0, r => r
  | n + 1, r => .unusable :: gap n r
def poolList (es : List (Nat × CpInfo)) (last : Nat) : List CpInfo := es.foldr (fun e r => gap e.1 (e.2 :: r)) (gap last [])
def pool (es : List (Nat × CpInfo)) (last : Nat) : Array CpInfo := ⟨poolList es last⟩
def fileOf (pool : Array CpInfo) (this : Nat) (attrs : Array Attribute := #[]) (ms : Array MethodInfo := #[]) (fl : Nat := 33) (sup : Nat := 0) (ifs : Array Nat := #[]) (fds : Array FieldInfo := #[]) : ClassFile where
  minorVersion := 0
  majorVersion := 65
  constantPool := pool
  accessFlags := fl
  thisClass := this
  superClass := sup
  interfaces := ifs
  fields := fds
  methods := ms
  attributes := attrs
def plain (name : String) (sup : Option ClassId) : Class where
  name := name
  kind := .ordinary
  loader := none
  accessFlags := 33
  super := sup
  interfaces := #[]
  cf := none
  fields := #[]
  methods := #[]
  instanceTypes := #[]
  staticTypes := #[]
  resolved := #[]
  callSites := []
  init := .initialized
  statics := none
  mirror := none

def pool0 : Array CpInfo := pool [(5, u "<init>"), (0, u "()V"), (1, .class_ 10), (1, u "java/lang/Object")] 113

def k0c0 : Code := { maxStack := 0, maxLocals := 1, code := object_method_1_code, exceptionTable := #[], attributes := #[] }
def k0m0 : Method := { name := "<init>", desc := "()V", sig := { parameters := [], returnType := none }, accessFlags := 1, code := some k0c0 }
/-- java/lang/Object -/
def k0 : Class := { plain "java/lang/Object" none with
  accessFlags := 33
  interfaces := #[]
  cf := some (fileOf pool0 8 #[] #[{ accessFlags := 1, nameIndex := 5, descriptorIndex := 6, attributes := #[] }] 33 0 #[] #[])
  fields := #[]
  methods := #[k0m0]
  instanceTypes := #[]
  staticTypes := #[]
  resolved := Array.replicate 124 none
  statics := none }

def pool1 : Array CpInfo := pool [(2, .class_ 4), (1, u "java/lang/Object"), (0, u "<init>"), (0, u "()V"), (0, .class_ 8), (0, u "org/tarndb/engine/Scope$Reach"), (0, .methodref 7 10), (0, .nameAndType 5 11), (0, u "(IIZ)V"), (0, .methodref 7 13), (0, .nameAndType 14 15), (0, u "only"), (0, u "(I)Z"), (0, .class_ 17), (0, u "org/tarndb/engine/ReachOnlyPinLaw"), (2, u "law"), (0, u "(IIII)Z")] 7

def k1m0 : Method := { name := "<init>", desc := "()V", sig := { parameters := [], returnType := none }, accessFlags := 2, code := none }
def k1c1 : Code := { maxStack := 5, maxLocals := 14, code := code, exceptionTable := #[], attributes := #[] }
def k1m1 : Method := { name := "law", desc := "(IIII)Z", sig := { parameters := [.int, .int, .int, .int], returnType := some .boolean }, accessFlags := 9, code := some k1c1 }
/-- org/tarndb/engine/ReachOnlyPinLaw -/
def k1 : Class := { plain "org/tarndb/engine/ReachOnlyPinLaw" (some 0) with
  accessFlags := 49
  interfaces := #[]
  cf := some (fileOf pool1 16 #[] #[{ accessFlags := 2, nameIndex := 5, descriptorIndex := 6, attributes := #[] }, { accessFlags := 9, nameIndex := 20, descriptorIndex := 21, attributes := #[] }] 49 2 #[] #[])
  fields := #[]
  methods := #[k1m0, k1m1]
  instanceTypes := #[]
  staticTypes := #[]
  resolved := Array.replicate 29 none
  statics := none }

def pool2 : Array CpInfo := pool [(1, .methodref 2 3), (0, .class_ 4), (0, .nameAndType 5 6), (0, u "java/lang/Object"), (0, u "<init>"), (0, u "()V"), (0, .class_ 8), (0, u "java/lang/Record")] 13

def k2c0 : Code := { maxStack := 1, maxLocals := 1, code := jdk_30_method_1_code, exceptionTable := #[], attributes := #[] }
def k2m0 : Method := { name := "<init>", desc := "()V", sig := { parameters := [], returnType := none }, accessFlags := 4, code := some k2c0 }
/-- java/lang/Record -/
def k2 : Class := { plain "java/lang/Record" (some 0) with
  accessFlags := 1057
  interfaces := #[]
  cf := some (fileOf pool2 7 #[] #[{ accessFlags := 4, nameIndex := 5, descriptorIndex := 6, attributes := #[] }] 1057 2 #[] #[])
  fields := #[]
  methods := #[k2m0]
  instanceTypes := #[]
  staticTypes := #[]
  resolved := Array.replicate 22 none
  statics := none }

def pool3 : Array CpInfo := pool [(1, .methodref 2 3), (0, .class_ 4), (0, .nameAndType 5 6), (0, u "java/lang/Record"), (0, u "<init>"), (0, u "()V"), (0, .fieldref 8 9), (0, .class_ 10), (0, .nameAndType 11 12), (0, u "org/tarndb/engine/Scope$Reach"), (0, u "first"), (0, u "I"), (0, .fieldref 8 14), (0, .nameAndType 15 12), (0, u "last"), (0, .fieldref 8 17), (0, .nameAndType 18 19), (0, u "outer"), (0, u "Z"), (11, u "(IIZ)V"), (18, u "only"), (0, u "(I)Z"), (7, .class_ 60), (0, u "org/tarndb/engine/Scope")] 21

def k3c0 : Code := { maxStack := 2, maxLocals := 4, code := prog_97_method_1_code, exceptionTable := #[], attributes := #[] }
def k3m0 : Method := { name := "<init>", desc := "(IIZ)V", sig := { parameters := [.int, .int, .boolean], returnType := none }, accessFlags := 0, code := some k3c0 }
def k3c1 : Code := { maxStack := 2, maxLocals := 2, code := prog_97_method_3_code, exceptionTable := #[], attributes := #[] }
def k3m1 : Method := { name := "only", desc := "(I)Z", sig := { parameters := [.int], returnType := some .boolean }, accessFlags := 0, code := some k3c1 }
/-- org/tarndb/engine/Scope$Reach -/
def k3 : Class := { plain "org/tarndb/engine/Scope$Reach" (some 2) with
  accessFlags := 48
  interfaces := #[]
  cf := some (fileOf pool3 8 #[.nestHost 59] #[{ accessFlags := 0, nameIndex := 5, descriptorIndex := 31, attributes := #[] }, { accessFlags := 0, nameIndex := 50, descriptorIndex := 51, attributes := #[] }] 48 2 #[] #[{ accessFlags := 18, nameIndex := 11, descriptorIndex := 12, attributes := #[] }, { accessFlags := 18, nameIndex := 15, descriptorIndex := 12, attributes := #[] }, { accessFlags := 18, nameIndex := 18, descriptorIndex := 19, attributes := #[] }])
  fields := #[{ name := "first", type := .int, accessFlags := 18, slot := 0, constantValue := 0 }, { name := "last", type := .int, accessFlags := 18, slot := 1, constantValue := 0 }, { name := "outer", type := .boolean, accessFlags := 18, slot := 2, constantValue := 0 }]
  methods := #[k3m0, k3m1]
  instanceTypes := #[.int, .int, .boolean]
  staticTypes := #[]
  resolved := Array.replicate 82 none
  statics := none }

def pool4 : Array CpInfo := pool [(1, u "java/lang/Cloneable"), (0, .class_ 1), (0, u "java/lang/Object"), (0, .class_ 3)] 3

/-- java/lang/Cloneable -/
def k4 : Class := { plain "java/lang/Cloneable" (some 0) with
  accessFlags := 1537
  interfaces := #[]
  cf := some (fileOf pool4 2 #[] #[] 1537 4 #[] #[])
  fields := #[]
  methods := #[]
  instanceTypes := #[]
  staticTypes := #[]
  resolved := Array.replicate 8 none
  statics := none }

def pool5 : Array CpInfo := pool [(1, u "java/io/Serializable"), (0, .class_ 1), (0, u "java/lang/Object"), (0, .class_ 3)] 3

/-- java/io/Serializable -/
def k5 : Class := { plain "java/io/Serializable" (some 0) with
  accessFlags := 1537
  interfaces := #[]
  cf := some (fileOf pool5 2 #[] #[] 1537 4 #[] #[])
  fields := #[]
  methods := #[]
  instanceTypes := #[]
  staticTypes := #[]
  resolved := Array.replicate 8 none
  statics := none }

/-- the primitive byte -/
def k6 : Class := { plain "byte" none with kind := .primitive 'B', accessFlags := 0x411 }
/-- [B -/
def k7 : Class := { plain "[B" (some 0) with kind := .array 6 .byte, interfaces := #[4, 5], accessFlags := 1041 }

/-- the primitive int -/
def k8 : Class := { plain "int" none with kind := .primitive 'I', accessFlags := 0x411 }
/-- [I -/
def k9 : Class := { plain "[I" (some 0) with kind := .array 8 .int, interfaces := #[4, 5], accessFlags := 1041 }

def heap : Heap := #[]
def classes : Array Class := #[k0, k1, k2, k3, k4, k5, k6, k7, k8, k9]
def interned : List (Array UInt16 × Addr) := []
def slotsUsed : Nat := 0
def theMethod : MethodId := ⟨1, 1⟩
def args0 : Array Value := #[.int 5, .int 5, .int 7, .int 1]
def aboutOver (below : List Frame) : State where
  vm := { classes := classes, interned := interned.toArray }
  heap := heap
  slotsUsed := slotsUsed
  threads := #[{ frames := .invoking theMethod args0 :: below }]
def below0 : List Frame := [.native { method := ⟨0, 0⟩, args := #[] }]
def about1 : State := aboutOver below0
def p0 : Program := .bare "" "" ""
def e0 : Env := launch0.env 0 0 0
theorem w_frames : about1.frames = Frame.invoking theMethod args0 :: below0 := rfl
set_option maxRecDepth 65536 in
theorem w_args : argsFit about1.vm theMethod args0 = true := by decide +kernel
set_option maxRecDepth 65536 in
theorem w_heap : heapFits about1 = true := by decide +kernel
set_option maxRecDepth 65536 in
theorem w_runnable : about1.curStatus? = some .runnable := by decide +kernel
set_option maxRecDepth 65536 in
theorem w_alone : about1.alone = true := by decide +kernel
set_option maxRecDepth 65536 in
theorem w_named : about1.methodNamed? x = some theMethod := by decide +kernel
set_option maxRecDepth 65536 in
theorem w_hears : about1.hears theMethod below0 = true := by decide +kernel
set_option maxRecDepth 65536 in
theorem w_ripe : about1.ripe theMethod args0 below0 = true := by decide +kernel
theorem w_running : about1.status = .running := rfl
set_option maxRecDepth 65536 in
theorem w_room : about1.hasRoom e0.platform room_1 = true :=
  launch0.hasRoom_least _ room_1 (by decide +kernel) (by decide +kernel) (by decide +kernel) (by decide +kernel) (by decide +kernel) (by decide +kernel)
theorem allAtoms_all (ts : List Jvm.Cond) (a : Array Jvm.Value) (st : Jvm.State) : (allAtoms ts).before a st = ts.all (fun c => c.before a st) := by
  induction ts with
  | nil => rfl
  | cons c t ih =>
    show (Jvm.Cond.and c (allAtoms t)).before a st = _
    rw [Jvm.Cond.before_and, ih, List.all_cons]
def words1 : List Jvm.Cond := Jvm.Cond.code x code maxLocals ret :: tables_1
/-- a 'code' word, met by the world's own term for the bytes: nothing is compared byte by byte -/
theorem code_word {y : MethodName} {bytes : ByteArray} {mx : Nat} {rt : Option FieldType} {a : Array Value} {s : State} {m : MethodId} {meth : Method} {c : Code} (h1 : s.methodNamed? y = some m) (h2 : s.vm.method? m = some meth) (h3 : meth.code = some c) (h4 : c.code = bytes)
    (h5 : (c.maxLocals == mx && c.exceptionTable.isEmpty && decide (c.maxStack ≤ mostOperands) && decide (meth.sig.returnType = rt) && !meth.locks && decide (parseMethodDescriptor y.desc = some meth.sig)) = true) : (Jvm.Cond.code y bytes mx rt).before a s = true := by
  simp only [Bool.and_eq_true, beq_iff_eq, Bool.not_eq_true', decide_eq_true_eq] at h5
  obtain ⟨⟨⟨⟨⟨g1, g2⟩, g3⟩, g4⟩, g5⟩, g6⟩ := h5
  simp [Cond.before, Cond.holds, Cond.value, h1, h2, h3, h4, g1, g2, g3, g4, g5, g6]
def isCode : Jvm.Cond → Bool
  | .code _ _ _ _ => true
  | _ => false
theorem all_split {L : List Jvm.Cond} {P : Jvm.Cond → Bool} (h1 : L.all (fun c => isCode c || P c) = true) (h2 : ∀ c ∈ L.filter isCode, P c = true) : L.all P = true := by
  refine List.all_eq_true.mpr fun c hc => ?_
  have h := List.all_eq_true.mp h1 c hc
  rcases Bool.eq_false_or_eq_true (isCode c) with hi | hi
  · exact h2 c (List.mem_filter.mpr ⟨hc, hi⟩)
  · simpa [hi] using h
set_option maxRecDepth 65536 in
theorem w_c0 : (Jvm.Cond.code x code maxLocals ret).before args0 about1 = true := code_word (m := ⟨1, 1⟩) (meth := k1m1) (c := k1c1) (by decide +kernel) rfl rfl rfl (by decide +kernel)
set_option maxRecDepth 65536 in
theorem w_c1 : (Jvm.Cond.code ({ cls := "org/tarndb/engine/Scope$Reach", name := "<init>", desc := "(IIZ)V" } : Jvm.MethodName) prog_97_method_1_code (4 : Nat) (Option.none : Option Jvm.ClassFile.FieldType)).before args0 about1 = true := code_word (m := ⟨3, 0⟩) (meth := k3m0) (c := k3c0) (by decide +kernel) rfl rfl rfl (by decide +kernel)
set_option maxRecDepth 65536 in
theorem w_c2 : (Jvm.Cond.code ({ cls := "java/lang/Record", name := "<init>", desc := "()V" } : Jvm.MethodName) jdk_30_method_1_code (1 : Nat) (Option.none : Option Jvm.ClassFile.FieldType)).before args0 about1 = true := code_word (m := ⟨2, 0⟩) (meth := k2m0) (c := k2c0) (by decide +kernel) rfl rfl rfl (by decide +kernel)
set_option maxRecDepth 65536 in
theorem w_c3 : (Jvm.Cond.code ({ cls := "java/lang/Object", name := "<init>", desc := "()V" } : Jvm.MethodName) object_method_1_code (1 : Nat) (Option.none : Option Jvm.ClassFile.FieldType)).before args0 about1 = true := code_word (m := ⟨0, 0⟩) (meth := k0m0) (c := k0c0) (by decide +kernel) rfl rfl rfl (by decide +kernel)
set_option maxRecDepth 65536 in
theorem w_c4 : (Jvm.Cond.code ({ cls := "org/tarndb/engine/Scope$Reach", name := "only", desc := "(I)Z" } : Jvm.MethodName) prog_97_method_3_code (2 : Nat) (Option.some Jvm.ClassFile.FieldType.boolean)).before args0 about1 = true := code_word (m := ⟨3, 1⟩) (meth := k3m1) (c := k3c1) (by decide +kernel) rfl rfl rfl (by decide +kernel)
def codes1 : List Jvm.Cond := [Jvm.Cond.code x code maxLocals ret, Jvm.Cond.code ({ cls := "org/tarndb/engine/Scope$Reach", name := "<init>", desc := "(IIZ)V" } : Jvm.MethodName) prog_97_method_1_code (4 : Nat) (Option.none : Option Jvm.ClassFile.FieldType), Jvm.Cond.code ({ cls := "java/lang/Record", name := "<init>", desc := "()V" } : Jvm.MethodName) jdk_30_method_1_code (1 : Nat) (Option.none : Option Jvm.ClassFile.FieldType), Jvm.Cond.code ({ cls := "java/lang/Object", name := "<init>", desc := "()V" } : Jvm.MethodName) object_method_1_code (1 : Nat) (Option.none : Option Jvm.ClassFile.FieldType), Jvm.Cond.code ({ cls := "org/tarndb/engine/Scope$Reach", name := "only", desc := "(I)Z" } : Jvm.MethodName) prog_97_method_3_code (2 : Nat) (Option.some Jvm.ClassFile.FieldType.boolean)]
set_option maxRecDepth 65536 in
theorem codes_eq : words1.filter isCode = codes1 := rfl
theorem w_codes : ∀ c ∈ words1.filter isCode, c.before args0 about1 = true := by
  rw [codes_eq]
  intro c hc
  simp only [codes1, List.mem_cons, List.not_mem_nil, or_false] at hc
  rcases hc with rfl | rfl | rfl | rfl | rfl
  · exact w_c0
  · exact w_c1
  · exact w_c2
  · exact w_c3
  · exact w_c4
set_option maxRecDepth 65536 in
theorem w_t1 : (words1.take 24).all (fun c => isCode c || c.before args0 about1) = true := by decide +kernel
set_option maxRecDepth 65536 in
theorem w_t2 : (words1.drop 24).all (fun c => isCode c || c.before args0 about1) = true := by decide +kernel
theorem w_tables : (allAtoms (Jvm.Cond.code x code maxLocals ret :: tables_1)).before args0 about1 = true := by
  rw [allAtoms_all]
  show words1.all (fun c => c.before args0 about1) = true
  refine all_split ?_ w_codes
  rw [← List.take_append_drop 24 words1, List.all_append, w_t1, w_t2]
  rfl
set_option maxRecDepth 65536 in
theorem w_case : (Jvm.Cond.and given_1 narrow_1).before args0 about1 = true := by decide +kernel
theorem w_applies : (headSpec (Jvm.Cond.code x code maxLocals ret :: tables_1) room_1).applies x e0.platform about1 = true :=
  (Spec.applies_iff w_frames).mpr ⟨w_running, w_runnable, w_alone, w_named, w_hears, w_ripe, w_room, w_tables⟩
theorem atStart : AtStart classFile x code maxLocals ret World_1 tables_1 room_1 Calls_1 rest_1 Pre_1 launch0 p0 e0 about1 theMethod args0 below0 :=
  ⟨lists_1, trivial, launch0.admits_env _ _ _, launch0.least_env, fairChoices_fair.cas, fairChoices_fair.clock, w_frames, w_args, w_heap, w_applies, trivial, trivial, w_case⟩
end start1
theorem witness_1 : WitnessClaimed_1 := ⟨start1.p0, start1.e0, start1.about1, start1.theMethod, start1.args0, start1.below0, start1.atStart⟩
end Jvm.Pilot.@@N@@
