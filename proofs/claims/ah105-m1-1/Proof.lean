import JvmDerived
import JvmDerived.Pilot.@@N@@Statement
import JvmDerived.Pilot.@@N@@Code
set_option linter.unusedVariables false
set_option linter.unusedSimpArgs false
namespace Jvm.Pilot.@@N@@
open Jvm Jvm.ClassFile Sem Op Lib Jvm.Free Jvm.Stand Jvm.LawKit Jvm.RoadKit Bundle Jvm.Pilot.@@N@@.Jvm.D
/-! the walk's own small kit: a run that ends in a return (own_Ends), a method's contract (own_Con), one step (own_go), the returns, the calls -/
section Own
variable {p : Program} {l : Launch} {e : Env} {R : Room} {s : State} {m : MethodId} {args : Array Value} {below : List Frame} {meth : Method} {c : Code} {T : State} {locs : List Loc} {cells slots : Nat} {Z : State} {a0 : Array Value} {h : Heap} {n0 kc ks : Nat}
/-- from the frame g at T the run comes to a return; what was written lies at or above n0; Q says what is returned and what the heap is then -/
def own_Ends (p : Program) (e : Env) (below : List Frame) (s : State) (n0 kc ks : Nat) (T : State) (g : JFrame) (Q : Option Value → Heap → Prop) : Prop :=
  ∃ s₂ o, Steps p.tables e below (T.setTop g) s₂ ∧ s₂.status = .running ∧ Ended s₂ below o ∧ ∃ v L, o = .returned v ∧ (Fr n0 L ∧ Q v s₂.heap) ∧ FrameEnd s o s₂ L kc ks
theorem own_go {T' : State} {g g' : JFrame} {Q : Option Value → Heap → Prop} (k : ∀ t, Steps p.tables e below (T'.setTop g') t → Steps p.tables e below (T.setTop g) t) (q : own_Ends p e below s n0 kc ks T' g' Q) : own_Ends p e below s n0 kc ks T g Q := by
  obtain ⟨s₂, o, h1, r⟩ := q
  exact ⟨s₂, o, k _ h1, r⟩
theorem own_mono {g : JFrame} {Q Q' : Option Value → Heap → Prop} (q : own_Ends p e below s n0 kc ks T g Q) (i : ∀ v h, Q v h → Q' v h) : own_Ends p e below s n0 kc ks T g Q' := by
  obtain ⟨s₂, o, h1, h2, h3, v, L, h4, ⟨h5, h6⟩, h7⟩ := q
  exact ⟨s₂, o, h1, h2, h3, v, L, h4, ⟨h5, i _ _ h6⟩, h7⟩
theorem own_retW (X : Stand p l e R s m args below meth c T locs cells slots) (hx : p.tables.exec = Jvm.exec) (hlk : meth.locks = false) {pc : Nat} {Ls : Array Slot} {w : Value} {t : FieldType} {i : Instr} {rest : List Value} (hret : meth.sig.returnType = some t) (hn : narrow t w = w)
    (hi : (i = .ireturn ∧ (t = .int ∨ t = .boolean ∨ t = .byte ∨ t = .char ∨ t = .short) ∧ ∃ z, w = .int z) ∨ (i = .lreturn ∧ t = .long ∧ ∃ z, w = .long z) ∨ (i = .dreturn ∧ t = .double ∧ ∃ z, w = .double z) ∨ (i = .freturn ∧ t = .float ∧ ∃ z, w = .float z) ∨ (i = .areturn ∧ t.isReference = true ∧ w.isRef = true))
    (hd : decode c.code pc = .ok (i, 1)) {Q : Option Value → Heap → Prop} (hc : cells ≤ kc) (hs : slots ≤ ks) (N : Fr n0 locs) (q : Q (some w) T.heap) : own_Ends p e below s n0 kc ks T (mkF m pc Ls (w :: rest)) Q := by
  obtain ⟨fs, hr, hrun, hended, hW, hsame⟩ := X.leave (v := some w) (fun h => by rw [hret] at h; cases h) hlk
  exact ⟨_, _, retOut X hx hret hn hi hd hr, hrun, hended, _, _, rfl, ⟨N, q⟩, ⟨_, rfl⟩, hW, hsame.mono hc hs⟩
theorem own_retI (X : Stand p l e R s m args below meth c T locs cells slots) (hx : p.tables.exec = Jvm.exec) (hlk : meth.locks = false) {pc : Nat} {Ls : Array Slot} {z : Int32} {rest : List Value} (hret : meth.sig.returnType = some .int)
    (hd : decode c.code pc = .ok (.ireturn, 1)) {Q : Option Value → Heap → Prop} (hc : cells ≤ kc) (hs : slots ≤ ks) (N : Fr n0 locs) (q : Q (some (.int z)) T.heap) : own_Ends p e below s n0 kc ks T (mkF m pc Ls (.int z :: rest)) Q :=
  own_retW X hx hlk hret rfl (Or.inl ⟨rfl, Or.inl rfl, z, rfl⟩) hd hc hs N q
theorem own_retJ (X : Stand p l e R s m args below meth c T locs cells slots) (hx : p.tables.exec = Jvm.exec) (hlk : meth.locks = false) {pc : Nat} {Ls : Array Slot} {z : Int64} {rest : List Value} (hret : meth.sig.returnType = some .long)
    (hd : decode c.code pc = .ok (.lreturn, 1)) {Q : Option Value → Heap → Prop} (hc : cells ≤ kc) (hs : slots ≤ ks) (N : Fr n0 locs) (q : Q (some (.long z)) T.heap) : own_Ends p e below s n0 kc ks T (mkF m pc Ls (.long z :: rest)) Q :=
  own_retW X hx hlk hret rfl (Or.inr (Or.inl ⟨rfl, rfl, z, rfl⟩)) hd hc hs N q
theorem own_retA (X : Stand p l e R s m args below meth c T locs cells slots) (hx : p.tables.exec = Jvm.exec) (hlk : meth.locks = false) {pc : Nat} {Ls : Array Slot} {a : Addr} {t : FieldType} {rest : List Value} (hret : meth.sig.returnType = some t) (ht : t.isReference = true) (hn : narrow t (.ref a) = .ref a)
    (hd : decode c.code pc = .ok (.areturn, 1)) {Q : Option Value → Heap → Prop} (hc : cells ≤ kc) (hs : slots ≤ ks) (N : Fr n0 locs) (q : Q (some (.ref a)) T.heap) : own_Ends p e below s n0 kc ks T (mkF m pc Ls (.ref a :: rest)) Q :=
  own_retW X hx hlk hret hn (Or.inr (Or.inr (Or.inr (Or.inr ⟨rfl, ht, rfl⟩)))) hd hc hs N q
theorem own_retN (X : Stand p l e R s m args below meth c T locs cells slots) (hx : p.tables.exec = Jvm.exec) (hlk : meth.locks = false) {pc : Nat} {Ls : Array Slot} {z : Int32} {t : FieldType} {rest : List Value} (hret : meth.sig.returnType = some t) (ht : t = .boolean ∨ t = .byte ∨ t = .char ∨ t = .short)
    (hd : decode c.code pc = .ok (.ireturn, 1)) {Q : Option Value → Heap → Prop} (hc : cells ≤ kc) (hs : slots ≤ ks) (N : Fr n0 locs) (q : Q (some (.int (nar t z))) T.heap) : own_Ends p e below s n0 kc ks T (mkF m pc Ls (.int z :: rest)) Q := by
  obtain ⟨fs, hr, hrun, hended, hW, hsame⟩ := X.leave (v := some (.int (nar t z))) (fun h => by rw [hret] at h; cases h) hlk
  exact ⟨_, _, retN X hx hret ht hd hr, hrun, hended, _, _, rfl, ⟨N, q⟩, ⟨_, rfl⟩, hW, hsame.mono hc hs⟩
theorem own_retV (X : Stand p l e R s m args below meth c T locs cells slots) (hx : p.tables.exec = Jvm.exec) (hlk : meth.locks = false) {pc : Nat} {Ls : Array Slot} (hret : meth.sig.returnType = none)
    (hd : decode c.code pc = .ok (.return_, 1)) {Q : Option Value → Heap → Prop} (hc : cells ≤ kc) (hs : slots ≤ ks) (N : Fr n0 locs) (q : Q none T.heap) : own_Ends p e below s n0 kc ks T (mkF m pc Ls []) Q := by
  obtain ⟨fs, hr, hrun, hended, hW, hsame⟩ := X.leave (v := none) (fun _ => rfl) hlk
  exact ⟨_, _, X.returnOut hx hret hd hr, hrun, hended, _, _, rfl, ⟨N, q⟩, ⟨_, rfl⟩, hW, hsame.mono hc hs⟩
/-- a method's contract: called with as' at the heap h it returns, and Q says what; nothing below n0 is written -/
def own_Con (ws : List Jvm.Cond) (l : Launch) (Z : State) (y : MethodName) (bytes : ByteArray) (maxL : Nat) (ret : Option FieldType) (rm : Room) (n0 : Nat) (as' : Array Value) (h : Heap) (Q : Option Value → Heap → Prop) : Prop :=
  MetFree l y (head1 (Jvm.Cond.code y bytes maxL ret :: ws) rm) (fun a U => a = as' ∧ Z.Warmed39 U.vm ∧ U.heap = h) (fun _ _ _ _ _ => True) (fun _ U o U' => ∃ v L, o = .returned v ∧ (Fr n0 L ∧ Q v U'.heap) ∧ FrameEnd U o U' L rm.cells rm.slots)
theorem own_body {ws : List Jvm.Cond} {y : MethodName} {bytes : ByteArray} {maxL : Nat} {ret : Option FieldType} {rm : Room} {as' : Array Value} {Q : Option Value → Heap → Prop} (hy : plainFor y = true) (fr : MethodId → JFrame) (hfr : ∀ m, entryFrame m as' maxL = fr m)
    (H : ∀ (p : Program) (e : Env) (s : State) (m : MethodId) (below : List Frame) (meth : Method) (c : Code) (s₁ : State), p.tables.exec = Jvm.exec → c.code = bytes → c.maxLocals = maxL → s.vm.findClass y.cls = some m.cls → meth.name = y.name → Z.Warmed39 s.vm → meth.sig.returnType = ret → meth.locks = false →
      Stand p l e rm s m as' below meth c s₁ [] 0 0 → s₁.heap = h → Fr n0 [] → own_Ends p e below s n0 rm.cells rm.slots s₁ (fr m) Q) : own_Con ws l Z y bytes maxL ret rm n0 as' h Q := by
  refine MetFree.of_bodySF hy hisR ?_
  intro p e s m args below meth c s₁ Bd hml0 hP hK
  obtain ⟨rfl, hZ, hh⟩ := hP
  have E := H p e s m below meth c s₁ Bd.exec Bd.bytes hml0 (findClass_of_methodNamed Bd.named) (name_of_methodNamed Bd.named Bd.method).1 hZ Bd.returns Bd.notSynchronized (Stand.of_body Bd) (by rw [← hh, Bd.state]; rfl) (Fr.nil n0)
  rw [← hfr m] at E
  exact E
/-- invokestatic by the callee's contract -/
theorem own_callS (X : Stand p l e R s m args below meth c T locs cells slots) (hx : p.tables.exec = Jvm.exec) (hZ : Z.Warmed39 s.vm) {own : String} {index : Nat} {y : MethodName} {bytes : ByteArray} {maxL : Nat} {ret : Option FieldType}
    (hown : s.vm.findClass own = some m.cls) (w1 : (Jvm.Cond.methodLink own index y).before a0 Z = true) (w2 : (Jvm.Cond.static y).before a0 Z = true) (w3 : (Jvm.Cond.initialized y.cls).before a0 Z = true) (w4 : (Jvm.Cond.code y bytes maxL ret).before a0 Z = true)
    (hy : y.cls ≠ "java/lang/invoke/MethodHandle" ∧ y.cls ≠ "java/lang/invoke/VarHandle") {argsL rest : List Value} {Q : Option Value → Heap → Prop} {rm : Room} (hM : own_Con [] l Z y bytes maxL ret rm n0 argsL.toArray h Q) {W : Nat} (hf : rm.frames + 1 ≤ R.frames) (hl : W + (maxL + 11) + rm.locals ≤ R.locals)
    {g : JFrame} (hg : g.method = m) (hsize : g.locals.size = c.maxLocals) {ps : List FieldType} {r : Option FieldType} (hpd : parseMethodDescriptor y.desc = some ⟨ps, r⟩) (hlen : argsL.length = ps.length) (hstack : g.stack = argsL.reverse ++ rest) (hW : 2 * g.monitorRoom + (rest.map fun v => v.category).sum ≤ W)
    (hd : decode c.code g.pc = .ok (.invokestatic index, 3)) (eT : T.heap = h) (hc : cells + rm.cells ≤ R.cells) (hs : slots + rm.slots ≤ R.slots) (N : Fr n0 locs) :
    ∃ v T' L', Stand p l e R s m args below meth c T' L' (cells + rm.cells) (slots + rm.slots) ∧ Fr n0 L' ∧ Q v T'.heap ∧ ∀ t, Steps p.tables e below (T'.setTop { g with pc := g.pc + 3, stack := v.toList ++ rest }) t → Steps p.tables e below (T.setTop g) t := by
  obtain ⟨v, _, ⟨T', L', k', n'⟩, -, X', ⟨Lc, ⟨hN, hQ⟩, l', y', z'⟩, st⟩ := Jvm.LawKit.callS X hx hown (mvT hZ w1) (mvT hZ w2) (mvT hZ w3) (mvT hZ w4) hy (backOf (Q := fun v h L => Fr n0 L ∧ Q v h) (W := W) hM hZ w4 w3 hf hl) hg hsize (lenOf hpd hlen) hstack hW hd (fun _ _ => ⟨rfl, eT, hc, hs⟩)
  dsimp only [Pt.U, Pt.locs, Pt.cells, Pt.slots] at X' l' y' z' st hQ
  subst l' y' z'
  exact ⟨v, T', _, X', Fr.app N hN, hQ, st⟩
/-- a constructor by its contract -/
theorem own_callI (X : Stand p l e R s m args below meth c T locs cells slots) (hx : p.tables.exec = Jvm.exec) (hZ : Z.Warmed39 s.vm) {own : String} {index : Nat} {y : MethodName} {bytes : ByteArray} {maxL : Nat}
    (hy1 : y.name = "<init>") (hown : s.vm.findClass own = some m.cls) (w1 : (Jvm.Cond.methodLink own index y).before a0 Z = true) (w2 : (Jvm.Cond.instanceMethod y).before a0 Z = true) (w3 : (Jvm.Cond.initialized y.cls).before a0 Z = true) (w4 : (Jvm.Cond.code y bytes maxL none).before a0 Z = true)
    (hy : y.cls ≠ "java/lang/invoke/MethodHandle" ∧ y.cls ≠ "java/lang/invoke/VarHandle") {a : Addr} {argsL rest : List Value} {Q : Option Value → Heap → Prop} {rm : Room} (hM : own_Con [] l Z y bytes maxL none rm n0 (.ref a :: argsL).toArray h Q) {W : Nat} (hf : rm.frames + 1 ≤ R.frames) (hl : W + (maxL + 11) + rm.locals ≤ R.locals)
    {g : JFrame} (hg : g.method = m) (hsize : g.locals.size = c.maxLocals) {ps : List FieldType} {r : Option FieldType} (hpd : parseMethodDescriptor y.desc = some ⟨ps, r⟩) (hlen : argsL.length = ps.length) (hstack : g.stack = argsL.reverse ++ .ref a :: rest) (hW : 2 * g.monitorRoom + (rest.map fun v => v.category).sum ≤ W)
    (hd : decode c.code g.pc = .ok (.invokespecial index, 3)) (eT : T.heap = h) (hc : cells + rm.cells ≤ R.cells) (hs : slots + rm.slots ≤ R.slots) (N : Fr n0 locs) :
    ∃ v T' L', Stand p l e R s m args below meth c T' L' (cells + rm.cells) (slots + rm.slots) ∧ Fr n0 L' ∧ Q v T'.heap ∧ ∀ t, Steps p.tables e below (T'.setTop { g with pc := g.pc + 3, stack := v.toList ++ rest }) t → Steps p.tables e below (T.setTop g) t := by
  obtain ⟨v, _, ⟨T', L', k', n'⟩, -, X', ⟨Lc, ⟨hN, hQ⟩, l', y', z'⟩, st⟩ := X.specialBack hx hy1 hown (mvT hZ w1) (mvT hZ w2) (mvT hZ w4) hy (backOf (Q := fun v h L => Fr n0 L ∧ Q v h) (W := W) hM hZ w4 w3 hf hl) hg hsize (Steps.refl _) (lenOf hpd hlen) hstack hW hd (fun _ _ => ⟨rfl, eT, hc, hs⟩)
  dsimp only [Pt.U, Pt.locs, Pt.cells, Pt.slots] at X' l' y' z' st hQ
  subst l' y' z'
  exact ⟨v, T', _, X', Fr.app N hN, hQ, fun t k => st.trans k⟩
/-- an instance method that its own class declares, by its contract -/
theorem own_callV (X : Stand p l e R s m args below meth c T locs cells slots) (hx : p.tables.exec = Jvm.exec) (hZ : Z.Warmed39 s.vm) {own C : String} {index : Nat} {y : MethodName} {bytes : ByteArray} {maxL : Nat} {ret : Option FieldType}
    (hown : s.vm.findClass own = some m.cls) (w1 : (Jvm.Cond.methodLink own index y).before a0 Z = true) (wd : (Jvm.Cond.declares y).before a0 Z = true) (ws : (Jvm.Cond.selects C y y).before a0 Z = true) (w2 : (Jvm.Cond.instanceMethod y).before a0 Z = true) (w3 : (Jvm.Cond.initialized y.cls).before a0 Z = true) (w4 : (Jvm.Cond.code y bytes maxL ret).before a0 Z = true)
    (hy : y.cls ≠ "java/lang/invoke/MethodHandle" ∧ y.cls ≠ "java/lang/invoke/VarHandle") {a : Addr} {argsL rest : List Value} {Q : Option Value → Heap → Prop} {rm : Room} (hM : own_Con [] l Z y bytes maxL ret rm n0 (.ref a :: argsL).toArray h Q) {W : Nat} (hf : rm.frames + 1 ≤ R.frames) (hl : W + (maxL + 11) + rm.locals ≤ R.locals)
    (E : Exa Z h a C) {g : JFrame} (hg : g.method = m) (hsize : g.locals.size = c.maxLocals) {ps : List FieldType} {r : Option FieldType} (hpd : parseMethodDescriptor y.desc = some ⟨ps, r⟩) (hlen : argsL.length = ps.length) (hstack : g.stack = argsL.reverse ++ .ref a :: rest) (hW : 2 * g.monitorRoom + (rest.map fun v => v.category).sum ≤ W)
    (hd : decode c.code g.pc = .ok (.invokevirtual index, 3)) (eT : T.heap = h) (hc : cells + rm.cells ≤ R.cells) (hs : slots + rm.slots ≤ R.slots) (N : Fr n0 locs) :
    ∃ v T' L', Stand p l e R s m args below meth c T' L' (cells + rm.cells) (slots + rm.slots) ∧ Fr n0 L' ∧ Q v T'.heap ∧ ∀ t, Steps p.tables e below (T'.setTop { g with pc := g.pc + 3, stack := v.toList ++ rest }) t → Steps p.tables e below (T.setTop g) t := by
  obtain ⟨cq, kq, qa, qb, qc⟩ := isOf hZ eT E
  obtain ⟨v, _, ⟨T', L', k', n'⟩, -, X', ⟨Lc, ⟨hN, hQ⟩, l', y', z'⟩, st⟩ := X.virtualBack hx (z := y) hown (mvT hZ w1) (mvT hZ wd) (notFace_of_selects (args := #[]) (mvT hZ ws)) (mvT hZ ws) (mvT hZ w2) hy (backOf (Q := fun v h L => Fr n0 L ∧ Q v h) (W := W) hM hZ w4 w3 hf hl) qa qc hg hsize (Steps.refl _) (lenOf hpd hlen) hstack hW hd (fun _ _ => ⟨rfl, eT, hc, hs⟩)
  dsimp only [Pt.U, Pt.locs, Pt.cells, Pt.slots] at X' l' y' z' st hQ
  subst l' y' z'
  exact ⟨v, T', _, X', Fr.app N hN, hQ, fun t k => st.trans k⟩
/-! arrays by their values -/
theorem own_ldI (X : Stand p l e R s m args below meth c T locs cells slots) (hx : p.tables.exec = Jvm.exec) (hZ : Z.Warmed39 s.vm) (eT : T.heap = h) {a : Addr} {k : ClassId} {n : Int32} {vs : List Value} {d : Value} (V : Arv Z h a k .int n vs d) {j : Int32} (hj : ¬ j < 0 ∧ j < n) {v : Value} (hv : vs.getD j.toNatClampNeg d = v)
    {g : JFrame} (hg : g.method = m) {rest : List Value} (hs : g.stack = .int j :: .ref a :: rest) (hd : decode c.code g.pc = .ok (.iaload, 1)) : ∀ t, Steps p.tables e below (T.setTop { g with pc := g.pc + 1, stack := v :: rest }) t → Steps p.tables e below (T.setTop g) t := by
  obtain ⟨cl, Ar, -, S, M, H, G⟩ := V
  have hin := inb_of S hj
  exact fun t k => X.iaload hx (by rw [eT]; exact Ar.1) (State.isArrayOf_alike hZ.alike Ar.2.1) Ar.2.2 hin (H.at hin hv) hg hs hd t k
theorem own_ldJ (X : Stand p l e R s m args below meth c T locs cells slots) (hx : p.tables.exec = Jvm.exec) (hZ : Z.Warmed39 s.vm) (eT : T.heap = h) {a : Addr} {k : ClassId} {n : Int32} {vs : List Value} {d : Value} (V : Arv Z h a k .long n vs d) {j : Int32} (hj : ¬ j < 0 ∧ j < n) {v : Value} (hv : vs.getD j.toNatClampNeg d = v)
    {g : JFrame} (hg : g.method = m) {rest : List Value} (hs : g.stack = .int j :: .ref a :: rest) (hd : decode c.code g.pc = .ok (.laload, 1)) : ∀ t, Steps p.tables e below (T.setTop { g with pc := g.pc + 1, stack := v :: rest }) t → Steps p.tables e below (T.setTop g) t := by
  obtain ⟨cl, Ar, -, S, M, H, G⟩ := V
  have hin := inb_of S hj
  exact fun t k => X.laload hx (by rw [eT]; exact Ar.1) (State.isArrayOf_alike hZ.alike Ar.2.1) Ar.2.2 hin (H.at hin hv) hg hs hd t k
theorem own_ldC (X : Stand p l e R s m args below meth c T locs cells slots) (hx : p.tables.exec = Jvm.exec) (hZ : Z.Warmed39 s.vm) (eT : T.heap = h) {a : Addr} {k : ClassId} {n : Int32} {vs : List Value} {d : Value} (V : Arv Z h a k .char n vs d) {j : Int32} (hj : ¬ j < 0 ∧ j < n) {v : Value} (hv : vs.getD j.toNatClampNeg d = v)
    {g : JFrame} (hg : g.method = m) {rest : List Value} (hs : g.stack = .int j :: .ref a :: rest) (hd : decode c.code g.pc = .ok (.caload, 1)) : ∀ t, Steps p.tables e below (T.setTop { g with pc := g.pc + 1, stack := v :: rest }) t → Steps p.tables e below (T.setTop g) t := by
  obtain ⟨cl, Ar, -, S, M, H, G⟩ := V
  have hin := inb_of S hj
  exact fun t k => X.caload hx (by rw [eT]; exact Ar.1) (State.isArrayOf_alike hZ.alike Ar.2.1) Ar.2.2 hin (H.at hin hv) hg hs hd t k
theorem own_ldB (X : Stand p l e R s m args below meth c T locs cells slots) (hx : p.tables.exec = Jvm.exec) (hZ : Z.Warmed39 s.vm) (eT : T.heap = h) {a : Addr} {k : ClassId} {n : Int32} {vs : List Value} {d : Value} (V : Arv Z h a k .byte n vs d) {j : Int32} (hj : ¬ j < 0 ∧ j < n) {v : Value} (hv : vs.getD j.toNatClampNeg d = v)
    {g : JFrame} (hg : g.method = m) {rest : List Value} (hs : g.stack = .int j :: .ref a :: rest) (hd : decode c.code g.pc = .ok (.baload, 1)) : ∀ t, Steps p.tables e below (T.setTop { g with pc := g.pc + 1, stack := v :: rest }) t → Steps p.tables e below (T.setTop g) t := by
  obtain ⟨cl, Ar, -, S, M, H, G⟩ := V
  have hin := inb_of S hj
  exact fun t k => X.baloadBytes hx (by rw [eT]; exact Ar.1) (State.isArrayOf_alike hZ.alike Ar.2.1) Ar.2.2 hin (H.at hin hv) hg hs hd t k
theorem own_len (X : Stand p l e R s m args below meth c T locs cells slots) (hx : p.tables.exec = Jvm.exec) (hZ : Z.Warmed39 s.vm) (eT : T.heap = h) {a : Addr} {k : ClassId} {ty : FieldType} {n : Int32} {vs : List Value} {d : Value} (V : Arv Z h a k ty n vs d)
    {g : JFrame} (hg : g.method = m) {rest : List Value} (hs : g.stack = .ref a :: rest) (hd : decode c.code g.pc = .ok (.arraylength, 1)) : ∀ t, Steps p.tables e below (T.setTop { g with pc := g.pc + 1, stack := .int n :: rest }) t → Steps p.tables e below (T.setTop g) t := by
  obtain ⟨cl, Ar, -, S, M, H, G⟩ := V
  intro t k
  refine X.arraylength hx (by rw [eT]; exact Ar.1) (State.isArrayOf_alike hZ.alike Ar.2.1) hg hs hd _ ?_
  rw [len_of S M]
  exact k
theorem own_stI (X : Stand p l e R s m args below meth c T locs cells slots) (hx : p.tables.exec = Jvm.exec) (hZ : Z.Warmed39 s.vm) (eT : T.heap = h) {a : Addr} {k : ClassId} {n : Int32} {vs : List Value} {d : Value} (V : Arv Z h a k .int n vs d) {j : Int32} (hj : ¬ j < 0 ∧ j < n) (i : Nat) (hi : j.toNatClampNeg = i) (hl : i < vs.length) {x : Int32}
    (N : Fr n0 locs) (ga : n0 ≤ a) {g : JFrame} (hg : g.method = m) {rest : List Value} (hs : g.stack = (.int x) :: .int j :: .ref a :: rest) (hd : decode c.code g.pc = .ok (.iastore, 1)) :
    ∃ T' h' L', Stand p l e R s m args below meth c T' L' cells slots ∧ Fr n0 L' ∧ T'.heap = h' ∧ Wr h h' a i (.int x) ∧ Arv Z h' a k .int n (vs.set i (.int x)) d ∧ ∀ t, Steps p.tables e below (T'.setTop { g with pc := g.pc + 1, stack := rest }) t → Steps p.tables e below (T.setTop g) t := by
  obtain ⟨cl, Ar, q, S, M, H, G⟩ := V
  obtain ⟨T', h', X', e', W, st⟩ := stI X hx hZ eT Ar (inb_of S hj) hg hs hd
  have V' := Arv.set Ar q S M H G rfl W i hi hl
  rw [hi] at W
  exact ⟨T', h', _, X', Fr.snoc X' N ga, e', W, V', st⟩
theorem own_stJ (X : Stand p l e R s m args below meth c T locs cells slots) (hx : p.tables.exec = Jvm.exec) (hZ : Z.Warmed39 s.vm) (eT : T.heap = h) {a : Addr} {k : ClassId} {n : Int32} {vs : List Value} {d : Value} (V : Arv Z h a k .long n vs d) {j : Int32} (hj : ¬ j < 0 ∧ j < n) (i : Nat) (hi : j.toNatClampNeg = i) (hl : i < vs.length) {x : Int64}
    (N : Fr n0 locs) (ga : n0 ≤ a) {g : JFrame} (hg : g.method = m) {rest : List Value} (hs : g.stack = (.long x) :: .int j :: .ref a :: rest) (hd : decode c.code g.pc = .ok (.lastore, 1)) :
    ∃ T' h' L', Stand p l e R s m args below meth c T' L' cells slots ∧ Fr n0 L' ∧ T'.heap = h' ∧ Wr h h' a i (.long x) ∧ Arv Z h' a k .long n (vs.set i (.long x)) d ∧ ∀ t, Steps p.tables e below (T'.setTop { g with pc := g.pc + 1, stack := rest }) t → Steps p.tables e below (T.setTop g) t := by
  obtain ⟨cl, Ar, q, S, M, H, G⟩ := V
  obtain ⟨T', h', X', e', W, st⟩ := stJ X hx hZ eT Ar (inb_of S hj) hg hs hd
  have V' := Arv.set Ar q S M H G rfl W i hi hl
  rw [hi] at W
  exact ⟨T', h', _, X', Fr.snoc X' N ga, e', W, V', st⟩
theorem own_stC (X : Stand p l e R s m args below meth c T locs cells slots) (hx : p.tables.exec = Jvm.exec) (hZ : Z.Warmed39 s.vm) (eT : T.heap = h) {a : Addr} {k : ClassId} {n : Int32} {vs : List Value} {d : Value} (V : Arv Z h a k .char n vs d) {j : Int32} (hj : ¬ j < 0 ∧ j < n) (i : Nat) (hi : j.toNatClampNeg = i) (hl : i < vs.length) {x : Int32}
    (N : Fr n0 locs) (ga : n0 ≤ a) {g : JFrame} (hg : g.method = m) {rest : List Value} (hs : g.stack = (.int x) :: .int j :: .ref a :: rest) (hd : decode c.code g.pc = .ok (.castore, 1)) :
    ∃ T' h' L', Stand p l e R s m args below meth c T' L' cells slots ∧ Fr n0 L' ∧ T'.heap = h' ∧ Wr h h' a i (.int (nar .char x)) ∧ Arv Z h' a k .char n (vs.set i (.int (nar .char x))) d ∧ ∀ t, Steps p.tables e below (T'.setTop { g with pc := g.pc + 1, stack := rest }) t → Steps p.tables e below (T.setTop g) t := by
  obtain ⟨cl, Ar, q, S, M, H, G⟩ := V
  obtain ⟨T', h', X', e', W, st⟩ := stC X hx hZ eT Ar (inb_of S hj) hg hs hd
  have V' := Arv.set Ar q S M H G (fits_nar_char _) W i hi hl
  rw [hi] at W
  exact ⟨T', h', _, X', Fr.snoc X' N ga, e', W, V', st⟩
theorem own_stB (X : Stand p l e R s m args below meth c T locs cells slots) (hx : p.tables.exec = Jvm.exec) (hZ : Z.Warmed39 s.vm) (eT : T.heap = h) {a : Addr} {k : ClassId} {n : Int32} {vs : List Value} {d : Value} (V : Arv Z h a k .byte n vs d) {j : Int32} (hj : ¬ j < 0 ∧ j < n) (i : Nat) (hi : j.toNatClampNeg = i) (hl : i < vs.length) {x : Int32}
    (N : Fr n0 locs) (ga : n0 ≤ a) {g : JFrame} (hg : g.method = m) {rest : List Value} (hs : g.stack = (.int x) :: .int j :: .ref a :: rest) (hd : decode c.code g.pc = .ok (.bastore, 1)) :
    ∃ T' h' L', Stand p l e R s m args below meth c T' L' cells slots ∧ Fr n0 L' ∧ T'.heap = h' ∧ Wr h h' a i (.int (nar .byte x)) ∧ Arv Z h' a k .byte n (vs.set i (.int (nar .byte x))) d ∧ ∀ t, Steps p.tables e below (T'.setTop { g with pc := g.pc + 1, stack := rest }) t → Steps p.tables e below (T.setTop g) t := by
  obtain ⟨cl, Ar, q, S, M, H, G⟩ := V
  obtain ⟨T', h', X', e', W, st⟩ := stB X hx hZ eT Ar (inb_of S hj) hg hs hd
  have V' := Arv.set Ar q S M H G (fits_nar_byte _) W i hi hl
  rw [hi] at W
  exact ⟨T', h', _, X', Fr.snoc X' N ga, e', W, V', st⟩
theorem own_new (X : Stand p l e R s m args below meth c T locs cells slots) (hx : p.tables.exec = Jvm.exec) (hZ : Z.Warmed39 s.vm) {aty : ArrayType} (w : (Jvm.Cond.arrayClass (newarray.typeOf aty)).before a0 Z = true) (eT : T.heap = h) {g : JFrame} (hg : g.method = m) (hd : decode c.code g.pc = .ok (.newarray aty, 2)) {n : Int32} {rest : List Value} (hs : g.stack = .int n :: rest)
    (hn : ¬ n < 0) {cap : Nat} (hcap : n.toNatClampNeg ≤ cap) (hb : cap * 8 ≤ 536870912) (hc : cells + 1 ≤ R.cells) (hl : slots + cap ≤ R.slots) :
    ∃ T' h' k a, a = h.size ∧ Stand p l e R s m args below meth c T' locs (cells + 1) (slots + cap) ∧ T'.heap = h' ∧ Ext h h' ∧ Arv Z h' a k (newarray.typeOf aty) n [] (defaultValue (newarray.typeOf aty)) ∧
      ∀ t, Steps p.tables e below (T'.setTop { g with pc := g.pc + 2, stack := .ref a :: rest }) t → Steps p.tables e below (T.setTop g) t := by
  obtain ⟨T', h', k, X', e', E, A, st⟩ := newP X hx hZ w eT hg hd hs hn hcap hb hc hl
  exact ⟨T', h', k, _, rfl, X', e', E, Arv.new A hn, st⟩
/-- what a method that only reads leaves -/
def own_P (z : Value) (h0 : Heap) : Option Value → Heap → Prop := fun v h => v = some z ∧ h = h0
end Own
/-- an Input by what it holds -/
def own_In (Z : State) (h : Heap) (a : Addr) (ps cl ln : Int32) (rb : Addr) (ck : Int32) : Prop := Exa Z h a "com/example/virta/virta/Input" ∧ Fld Z h a "com/example/virta/virta/Input" "position" "I" (.int ps) ∧ Fld Z h a "com/example/virta/virta/Input" "column" "I" (.int cl) ∧ Fld Z h a "com/example/virta/virta/Input" "line" "I" (.int ln) ∧ Fld Z h a "com/example/virta/virta/Input" "buffer" "[C" (.ref rb) ∧ Fld Z h a "com/example/virta/virta/Input" "checked" "I" (.int ck)
def own_Qv (Z : State) (a : Addr) (ps cl ln : Int32) (rb : Addr) (ck : Int32) (h0 : Heap) : Option Value → Heap → Prop := fun v h => v = none ∧ Keep h0 h [a] ∧ own_In Z h a ps cl ln rb ck
def own_Qi (Z : State) (z : Int32) (a : Addr) (ps cl ln : Int32) (rb : Addr) (ck : Int32) (h0 : Heap) : Option Value → Heap → Prop := fun v h => v = some (.int z) ∧ Keep h0 h [a] ∧ own_In Z h a ps cl ln rb ck
abbrev own_r2 : Room := { frames := 1, cells := 0, slots := 0, locals := 12 }
theorem d2_0 : decode prog_42_method_2_code 0 = .ok (.aload_n 0, 1) := by decide +kernel
theorem d2_1 : decode prog_42_method_2_code 1 = .ok (.invokespecial 1, 3) := by decide +kernel
theorem d2_4 : decode prog_42_method_2_code 4 = .ok (.aload_n 0, 1) := by decide +kernel
theorem d2_5 : decode prog_42_method_2_code 5 = .ok (.iconst 1, 1) := by decide +kernel
theorem d2_6 : decode prog_42_method_2_code 6 = .ok (.putfield 7, 3) := by decide +kernel
theorem d2_9 : decode prog_42_method_2_code 9 = .ok (.aload_n 0, 1) := by decide +kernel
theorem d2_10 : decode prog_42_method_2_code 10 = .ok (.iconst 1, 1) := by decide +kernel
theorem d2_11 : decode prog_42_method_2_code 11 = .ok (.putfield 13, 3) := by decide +kernel
theorem d2_14 : decode prog_42_method_2_code 14 = .ok (.aload_n 0, 1) := by decide +kernel
theorem d2_15 : decode prog_42_method_2_code 15 = .ok (.iconst 1, 1) := by decide +kernel
theorem d2_16 : decode prog_42_method_2_code 16 = .ok (.putfield 16, 3) := by decide +kernel
theorem d2_19 : decode prog_42_method_2_code 19 = .ok (.aload_n 0, 1) := by decide +kernel
theorem d2_20 : decode prog_42_method_2_code 20 = .ok (.aconst_null, 1) := by decide +kernel
theorem d2_21 : decode prog_42_method_2_code 21 = .ok (.putfield 20, 3) := by decide +kernel
theorem d2_24 : decode prog_42_method_2_code 24 = .ok (.aload_n 0, 1) := by decide +kernel
theorem d2_25 : decode prog_42_method_2_code 25 = .ok (.aload_n 1, 1) := by decide +kernel
theorem d2_26 : decode prog_42_method_2_code 26 = .ok (.putfield 24, 3) := by decide +kernel
theorem d2_29 : decode prog_42_method_2_code 29 = .ok (.aload_n 0, 1) := by decide +kernel
theorem d2_30 : decode prog_42_method_2_code 30 = .ok (.aconst_null, 1) := by decide +kernel
theorem d2_31 : decode prog_42_method_2_code 31 = .ok (.putfield 28, 3) := by decide +kernel
theorem d2_34 : decode prog_42_method_2_code 34 = .ok (.aload_n 0, 1) := by decide +kernel
theorem d2_35 : decode prog_42_method_2_code 35 = .ok (.aconst_null, 1) := by decide +kernel
theorem d2_36 : decode prog_42_method_2_code 36 = .ok (.putfield 32, 3) := by decide +kernel
theorem d2_39 : decode prog_42_method_2_code 39 = .ok (.aload_n 0, 1) := by decide +kernel
theorem d2_40 : decode prog_42_method_2_code 40 = .ok (.aconst_null, 1) := by decide +kernel
theorem d2_41 : decode prog_42_method_2_code 41 = .ok (.putfield 35, 3) := by decide +kernel
theorem d2_44 : decode prog_42_method_2_code 44 = .ok (.aload_n 0, 1) := by decide +kernel
theorem d2_45 : decode prog_42_method_2_code 45 = .ok (.aconst_null, 1) := by decide +kernel
theorem d2_46 : decode prog_42_method_2_code 46 = .ok (.putfield 38, 3) := by decide +kernel
theorem d2_49 : decode prog_42_method_2_code 49 = .ok (.aload_n 0, 1) := by decide +kernel
theorem d2_50 : decode prog_42_method_2_code 50 = .ok (.aconst_null, 1) := by decide +kernel
theorem d2_51 : decode prog_42_method_2_code 51 = .ok (.putfield 45, 3) := by decide +kernel
theorem d2_54 : decode prog_42_method_2_code 54 = .ok (.aload_n 0, 1) := by decide +kernel
theorem d2_55 : decode prog_42_method_2_code 55 = .ok (.aload_n 1, 1) := by decide +kernel
theorem d2_56 : decode prog_42_method_2_code 56 = .ok (.arraylength, 1) := by decide +kernel
theorem d2_57 : decode prog_42_method_2_code 57 = .ok (.putfield 49, 3) := by decide +kernel
theorem d2_60 : decode prog_42_method_2_code 60 = .ok (.aload_n 0, 1) := by decide +kernel
theorem d2_61 : decode prog_42_method_2_code 61 = .ok (.aload_n 1, 1) := by decide +kernel
theorem d2_62 : decode prog_42_method_2_code 62 = .ok (.arraylength, 1) := by decide +kernel
theorem d2_63 : decode prog_42_method_2_code 63 = .ok (.putfield 52, 3) := by decide +kernel
theorem d2_66 : decode prog_42_method_2_code 66 = .ok (.aload_n 0, 1) := by decide +kernel
theorem d2_67 : decode prog_42_method_2_code 67 = .ok (.aload_n 1, 1) := by decide +kernel
theorem d2_68 : decode prog_42_method_2_code 68 = .ok (.arraylength, 1) := by decide +kernel
theorem d2_69 : decode prog_42_method_2_code 69 = .ok (.i2l, 1) := by decide +kernel
theorem d2_70 : decode prog_42_method_2_code 70 = .ok (.putfield 55, 3) := by decide +kernel
theorem d2_73 : decode prog_42_method_2_code 73 = .ok (.aload_n 0, 1) := by decide +kernel
theorem d2_74 : decode prog_42_method_2_code 74 = .ok (.iconst 1, 1) := by decide +kernel
theorem d2_75 : decode prog_42_method_2_code 75 = .ok (.putfield 59, 3) := by decide +kernel
theorem d2_78 : decode prog_42_method_2_code 78 = .ok (.return_, 1) := by decide +kernel
theorem ef_2 (m : MethodId) (a : Addr) (r0 : Addr) : entryFrame m #[(.ref a), (.ref r0)] 2 = mkF m 0 #[.val (.ref a), .val (.ref r0)] [] := by first | (simp [entryFrame, mkF, argsToLocals, Value.category]; done) | rfl
set_option maxRecDepth 65536 in
set_option maxHeartbeats 40000000 in
theorem rm2 (l : Launch) (Z : State) (a0 : Array Value) (hw : ∀ d ∈ tables_1, d.before a0 Z = true) (a r0 : Addr) (k : ClassId) (n : Int32) (vs : List Value) (dv : Value) (h0 : Heap) (n0 : Nat) (Z0 : n0 ≤ h0.size) (ga_a : n0 ≤ a) (V0 : Arv Z h0 r0 k .char n vs dv) (lt_r : r0 < a) (E0 : Exa Z h0 a "com/example/virta/virta/Input") (F0_line : Fld Z h0 a "com/example/virta/virta/Input" "line" "I" (.int (0 : Int32))) (F0_column : Fld Z h0 a "com/example/virta/virta/Input" "column" "I" (.int (0 : Int32))) (F0_atStart : Fld Z h0 a "com/example/virta/virta/Input" "atStart" "Z" (.int (0 : Int32))) (F0_reader : Fld Z h0 a "com/example/virta/virta/Input" "reader" "Ljava/io/Reader;" .null) (F0_buffer : Fld Z h0 a "com/example/virta/virta/Input" "buffer" "[C" .null) (F0_publicId : Fld Z h0 a "com/example/virta/virta/Input" "publicId" "Ljava/lang/String;" .null) (F0_systemId : Fld Z h0 a "com/example/virta/virta/Input" "systemId" "Ljava/lang/String;" .null) (F0_base : Fld Z h0 a "com/example/virta/virta/Input" "base" "Ljava/lang/String;" .null) (F0_givenEncoding : Fld Z h0 a "com/example/virta/virta/Input" "givenEncoding" "Ljava/lang/String;" .null) (F0_digestLanes : Fld Z h0 a "com/example/virta/virta/Input" "digestLanes" "[J" .null) (F0_checked : Fld Z h0 a "com/example/virta/virta/Input" "checked" "I" (.int (0 : Int32))) (F0_limit : Fld Z h0 a "com/example/virta/virta/Input" "limit" "I" (.int (0 : Int32))) (F0_checkedSoFar : Fld Z h0 a "com/example/virta/virta/Input" "checkedSoFar" "J" (.long (0 : Int64))) (F0_endOfText : Fld Z h0 a "com/example/virta/virta/Input" "endOfText" "Z" (.int (0 : Int32))) (F0_position : Fld Z h0 a "com/example/virta/virta/Input" "position" "I" (.int (0 : Int32))) : own_Con [] l Z (⟨"com/example/virta/virta/Input", "<init>", "([C)V"⟩ : MethodName) prog_42_method_2_code 2 none own_r2 n0 #[(.ref a), (.ref r0)] h0 (own_Qv Z a 0 1 1 r0 n h0) := by
  refine own_body (plainFor_of_name (by first | (simp [plainName, overriddenIn]; done) | decide +kernel)) (fun m => mkF m 0 #[.val (.ref a), .val (.ref r0)] []) (fun m => ef_2 m a r0) ?_
  intro p e s m below meth c s₁ hx hby hml hown hnm hZ hret hlk X0 e0 N0
  have K0 := Keep.refl h0 [a]
  refine own_go (T' := s₁) (g' := (mkF m 1 #[.val (.ref a), .val (.ref r0)] [(.ref a)])) (fun t k => ?_) ?_
  · show Steps p.tables e below (s₁.setTop (mkF m 0 #[.val (.ref a), .val (.ref r0)] [])) t
    refine XS.aloadN X0.here hx rfl (hb hby d2_0) rfl rfl ?_
    show Steps p.tables e below (s₁.setTop (mkF m 1 #[.val (.ref a), .val (.ref r0)] [(.ref a)])) _
    exact k
  obtain ⟨T1, X1, e1, st1⟩ := initO X0 hx hZ hown (hw _ (List.mem_of_getElem? (i := 13) rfl)) (hw _ (List.mem_of_getElem? (i := 14) rfl)) (hw _ (List.mem_of_getElem? (i := 15) rfl)) e0 (g := (mkF m 1 #[.val (.ref a), .val (.ref r0)] [(.ref a)])) rfl (by rw [hml]; rfl) rfl (hb hby d2_1) (by decide) (W := 0) (by show 2 * 0 + _ ≤ _; exact Nat.le_of_eq rfl) (by decide)
  refine own_go (T' := T1) (g' := (mkF m 4 #[.val (.ref a), .val (.ref r0)] [])) st1 ?_
  refine own_go (T' := T1) (g' := (mkF m 6 #[.val (.ref a), .val (.ref r0)] [(.int (1 : Int32)), (.ref a)])) (fun t k => ?_) ?_
  · show Steps p.tables e below (T1.setTop (mkF m 4 #[.val (.ref a), .val (.ref r0)] [])) t
    refine XS.aloadN X1.here hx rfl (hb hby d2_4) rfl rfl ?_
    show Steps p.tables e below (T1.setTop (mkF m 5 #[.val (.ref a), .val (.ref r0)] [(.ref a)])) _
    refine XS.iconst X1.here hx rfl (hb hby d2_5) ?_
    show Steps p.tables e below (T1.setTop (mkF m 6 #[.val (.ref a), .val (.ref r0)] [(.int (1 : Int32)), (.ref a)])) _
    exact k
  obtain ⟨T2, h2, X2, e2, W2, st2⟩ := putF X1 hx hZ hown (host := "") (Or.inl (hw _ (List.mem_of_getElem? (i := 16) rfl))) Via.refl e1 F0_line E0 (Or.inl (hw _ (List.mem_of_getElem? (i := 17) rfl))) (hw _ (List.mem_of_getElem? (i := 8) rfl)) (ty := .int) (by decide) rfl rfl (g := (mkF m 6 #[.val (.ref a), .val (.ref r0)] [(.int (1 : Int32)), (.ref a)])) rfl rfl (hb hby d2_6)
  have V_r0_2 := V0.other W2 (Nat.ne_of_lt lt_r)
  have E_a_2 := Exa.wr W2 E0
  have F_a_column_2 := Fld.other W2 F0_column (Or.inr (slot_ne (Or.inl (hw _ (List.mem_of_getElem? (i := 19) rfl))) (Or.inl (hw _ (List.mem_of_getElem? (i := 17) rfl))) (by decide) (t := .int) (t' := .int) (by decide) (by decide)))
  have F_a_atStart_2 := Fld.other W2 F0_atStart (Or.inr (slot_ne (Or.inl (hw _ (List.mem_of_getElem? (i := 21) rfl))) (Or.inl (hw _ (List.mem_of_getElem? (i := 17) rfl))) (by decide) (t := .boolean) (t' := .int) (by decide) (by decide)))
  have F_a_reader_2 := Fld.other W2 F0_reader (Or.inr (slot_ne (Or.inr (hw _ (List.mem_of_getElem? (i := 23) rfl))) (Or.inl (hw _ (List.mem_of_getElem? (i := 17) rfl))) (by decide) (t := (.object "java/io/Reader")) (t' := .int) (by decide) (by decide)))
  have F_a_buffer_2 := Fld.other W2 F0_buffer (Or.inr (slot_ne (Or.inr (hw _ (List.mem_of_getElem? (i := 25) rfl))) (Or.inl (hw _ (List.mem_of_getElem? (i := 17) rfl))) (by decide) (t := (.array .char)) (t' := .int) (by decide) (by decide)))
  have F_a_publicId_2 := Fld.other W2 F0_publicId (Or.inr (slot_ne (Or.inr (hw _ (List.mem_of_getElem? (i := 27) rfl))) (Or.inl (hw _ (List.mem_of_getElem? (i := 17) rfl))) (by decide) (t := (.object "java/lang/String")) (t' := .int) (by decide) (by decide)))
  have F_a_systemId_2 := Fld.other W2 F0_systemId (Or.inr (slot_ne (Or.inr (hw _ (List.mem_of_getElem? (i := 29) rfl))) (Or.inl (hw _ (List.mem_of_getElem? (i := 17) rfl))) (by decide) (t := (.object "java/lang/String")) (t' := .int) (by decide) (by decide)))
  have F_a_base_2 := Fld.other W2 F0_base (Or.inr (slot_ne (Or.inr (hw _ (List.mem_of_getElem? (i := 31) rfl))) (Or.inl (hw _ (List.mem_of_getElem? (i := 17) rfl))) (by decide) (t := (.object "java/lang/String")) (t' := .int) (by decide) (by decide)))
  have F_a_givenEncoding_2 := Fld.other W2 F0_givenEncoding (Or.inr (slot_ne (Or.inr (hw _ (List.mem_of_getElem? (i := 33) rfl))) (Or.inl (hw _ (List.mem_of_getElem? (i := 17) rfl))) (by decide) (t := (.object "java/lang/String")) (t' := .int) (by decide) (by decide)))
  have F_a_digestLanes_2 := Fld.other W2 F0_digestLanes (Or.inr (slot_ne (Or.inr (hw _ (List.mem_of_getElem? (i := 35) rfl))) (Or.inl (hw _ (List.mem_of_getElem? (i := 17) rfl))) (by decide) (t := (.array .long)) (t' := .int) (by decide) (by decide)))
  have F_a_checked_2 := Fld.other W2 F0_checked (Or.inr (slot_ne (Or.inl (hw _ (List.mem_of_getElem? (i := 37) rfl))) (Or.inl (hw _ (List.mem_of_getElem? (i := 17) rfl))) (by decide) (t := .int) (t' := .int) (by decide) (by decide)))
  have F_a_limit_2 := Fld.other W2 F0_limit (Or.inr (slot_ne (Or.inl (hw _ (List.mem_of_getElem? (i := 39) rfl))) (Or.inl (hw _ (List.mem_of_getElem? (i := 17) rfl))) (by decide) (t := .int) (t' := .int) (by decide) (by decide)))
  have F_a_checkedSoFar_2 := Fld.other W2 F0_checkedSoFar (Or.inr (slot_ne (Or.inl (hw _ (List.mem_of_getElem? (i := 41) rfl))) (Or.inl (hw _ (List.mem_of_getElem? (i := 17) rfl))) (by decide) (t := .long) (t' := .int) (by decide) (by decide)))
  have F_a_endOfText_2 := Fld.other W2 F0_endOfText (Or.inr (slot_ne (Or.inl (hw _ (List.mem_of_getElem? (i := 43) rfl))) (Or.inl (hw _ (List.mem_of_getElem? (i := 17) rfl))) (by decide) (t := .boolean) (t' := .int) (by decide) (by decide)))
  have F_a_position_2 := Fld.other W2 F0_position (Or.inr (slot_ne (Or.inl (hw _ (List.mem_of_getElem? (i := 55) rfl))) (Or.inl (hw _ (List.mem_of_getElem? (i := 17) rfl))) (by decide) (t := .int) (t' := .int) (by decide) (by decide)))
  have K2 := K0.wr W2 (Or.inl (List.mem_of_getElem? (i := 0) rfl))
  have F_a_line_2 : Fld Z h2 a "com/example/virta/virta/Input" "line" "I" (.int (1 : Int32)) := Fld.same W2 F0_line
  have N2 := Fr.snoc X2 N0 ga_a
  have sz_2 := Nat.le_trans Z0 (Nat.le_of_eq (Wr.size W2).symm)
  refine own_go (T' := T2) (g' := (mkF m 9 #[.val (.ref a), .val (.ref r0)] [])) st2 ?_
  refine own_go (T' := T2) (g' := (mkF m 11 #[.val (.ref a), .val (.ref r0)] [(.int (1 : Int32)), (.ref a)])) (fun t k => ?_) ?_
  · show Steps p.tables e below (T2.setTop (mkF m 9 #[.val (.ref a), .val (.ref r0)] [])) t
    refine XS.aloadN X2.here hx rfl (hb hby d2_9) rfl rfl ?_
    show Steps p.tables e below (T2.setTop (mkF m 10 #[.val (.ref a), .val (.ref r0)] [(.ref a)])) _
    refine XS.iconst X2.here hx rfl (hb hby d2_10) ?_
    show Steps p.tables e below (T2.setTop (mkF m 11 #[.val (.ref a), .val (.ref r0)] [(.int (1 : Int32)), (.ref a)])) _
    exact k
  obtain ⟨T3, h3, X3, e3, W3, st3⟩ := putF X2 hx hZ hown (host := "") (Or.inl (hw _ (List.mem_of_getElem? (i := 18) rfl))) Via.refl e2 F_a_column_2 E_a_2 (Or.inl (hw _ (List.mem_of_getElem? (i := 19) rfl))) (hw _ (List.mem_of_getElem? (i := 8) rfl)) (ty := .int) (by decide) rfl rfl (g := (mkF m 11 #[.val (.ref a), .val (.ref r0)] [(.int (1 : Int32)), (.ref a)])) rfl rfl (hb hby d2_11)
  have V_r0_3 := V_r0_2.other W3 (Nat.ne_of_lt lt_r)
  have E_a_3 := Exa.wr W3 E_a_2
  have F_a_line_3 := Fld.other W3 F_a_line_2 (Or.inr (slot_ne (Or.inl (hw _ (List.mem_of_getElem? (i := 17) rfl))) (Or.inl (hw _ (List.mem_of_getElem? (i := 19) rfl))) (by decide) (t := .int) (t' := .int) (by decide) (by decide)))
  have F_a_atStart_3 := Fld.other W3 F_a_atStart_2 (Or.inr (slot_ne (Or.inl (hw _ (List.mem_of_getElem? (i := 21) rfl))) (Or.inl (hw _ (List.mem_of_getElem? (i := 19) rfl))) (by decide) (t := .boolean) (t' := .int) (by decide) (by decide)))
  have F_a_reader_3 := Fld.other W3 F_a_reader_2 (Or.inr (slot_ne (Or.inr (hw _ (List.mem_of_getElem? (i := 23) rfl))) (Or.inl (hw _ (List.mem_of_getElem? (i := 19) rfl))) (by decide) (t := (.object "java/io/Reader")) (t' := .int) (by decide) (by decide)))
  have F_a_buffer_3 := Fld.other W3 F_a_buffer_2 (Or.inr (slot_ne (Or.inr (hw _ (List.mem_of_getElem? (i := 25) rfl))) (Or.inl (hw _ (List.mem_of_getElem? (i := 19) rfl))) (by decide) (t := (.array .char)) (t' := .int) (by decide) (by decide)))
  have F_a_publicId_3 := Fld.other W3 F_a_publicId_2 (Or.inr (slot_ne (Or.inr (hw _ (List.mem_of_getElem? (i := 27) rfl))) (Or.inl (hw _ (List.mem_of_getElem? (i := 19) rfl))) (by decide) (t := (.object "java/lang/String")) (t' := .int) (by decide) (by decide)))
  have F_a_systemId_3 := Fld.other W3 F_a_systemId_2 (Or.inr (slot_ne (Or.inr (hw _ (List.mem_of_getElem? (i := 29) rfl))) (Or.inl (hw _ (List.mem_of_getElem? (i := 19) rfl))) (by decide) (t := (.object "java/lang/String")) (t' := .int) (by decide) (by decide)))
  have F_a_base_3 := Fld.other W3 F_a_base_2 (Or.inr (slot_ne (Or.inr (hw _ (List.mem_of_getElem? (i := 31) rfl))) (Or.inl (hw _ (List.mem_of_getElem? (i := 19) rfl))) (by decide) (t := (.object "java/lang/String")) (t' := .int) (by decide) (by decide)))
  have F_a_givenEncoding_3 := Fld.other W3 F_a_givenEncoding_2 (Or.inr (slot_ne (Or.inr (hw _ (List.mem_of_getElem? (i := 33) rfl))) (Or.inl (hw _ (List.mem_of_getElem? (i := 19) rfl))) (by decide) (t := (.object "java/lang/String")) (t' := .int) (by decide) (by decide)))
  have F_a_digestLanes_3 := Fld.other W3 F_a_digestLanes_2 (Or.inr (slot_ne (Or.inr (hw _ (List.mem_of_getElem? (i := 35) rfl))) (Or.inl (hw _ (List.mem_of_getElem? (i := 19) rfl))) (by decide) (t := (.array .long)) (t' := .int) (by decide) (by decide)))
  have F_a_checked_3 := Fld.other W3 F_a_checked_2 (Or.inr (slot_ne (Or.inl (hw _ (List.mem_of_getElem? (i := 37) rfl))) (Or.inl (hw _ (List.mem_of_getElem? (i := 19) rfl))) (by decide) (t := .int) (t' := .int) (by decide) (by decide)))
  have F_a_limit_3 := Fld.other W3 F_a_limit_2 (Or.inr (slot_ne (Or.inl (hw _ (List.mem_of_getElem? (i := 39) rfl))) (Or.inl (hw _ (List.mem_of_getElem? (i := 19) rfl))) (by decide) (t := .int) (t' := .int) (by decide) (by decide)))
  have F_a_checkedSoFar_3 := Fld.other W3 F_a_checkedSoFar_2 (Or.inr (slot_ne (Or.inl (hw _ (List.mem_of_getElem? (i := 41) rfl))) (Or.inl (hw _ (List.mem_of_getElem? (i := 19) rfl))) (by decide) (t := .long) (t' := .int) (by decide) (by decide)))
  have F_a_endOfText_3 := Fld.other W3 F_a_endOfText_2 (Or.inr (slot_ne (Or.inl (hw _ (List.mem_of_getElem? (i := 43) rfl))) (Or.inl (hw _ (List.mem_of_getElem? (i := 19) rfl))) (by decide) (t := .boolean) (t' := .int) (by decide) (by decide)))
  have F_a_position_3 := Fld.other W3 F_a_position_2 (Or.inr (slot_ne (Or.inl (hw _ (List.mem_of_getElem? (i := 55) rfl))) (Or.inl (hw _ (List.mem_of_getElem? (i := 19) rfl))) (by decide) (t := .int) (t' := .int) (by decide) (by decide)))
  have K3 := K2.wr W3 (Or.inl (List.mem_of_getElem? (i := 0) rfl))
  have F_a_column_3 : Fld Z h3 a "com/example/virta/virta/Input" "column" "I" (.int (1 : Int32)) := Fld.same W3 F_a_column_2
  have N3 := Fr.snoc X3 N2 ga_a
  have sz_3 := Nat.le_trans sz_2 (Nat.le_of_eq (Wr.size W3).symm)
  refine own_go (T' := T3) (g' := (mkF m 14 #[.val (.ref a), .val (.ref r0)] [])) st3 ?_
  refine own_go (T' := T3) (g' := (mkF m 16 #[.val (.ref a), .val (.ref r0)] [(.int (1 : Int32)), (.ref a)])) (fun t k => ?_) ?_
  · show Steps p.tables e below (T3.setTop (mkF m 14 #[.val (.ref a), .val (.ref r0)] [])) t
    refine XS.aloadN X3.here hx rfl (hb hby d2_14) rfl rfl ?_
    show Steps p.tables e below (T3.setTop (mkF m 15 #[.val (.ref a), .val (.ref r0)] [(.ref a)])) _
    refine XS.iconst X3.here hx rfl (hb hby d2_15) ?_
    show Steps p.tables e below (T3.setTop (mkF m 16 #[.val (.ref a), .val (.ref r0)] [(.int (1 : Int32)), (.ref a)])) _
    exact k
  obtain ⟨T4, h4, X4, e4, W4, st4⟩ := putFN X3 hx hZ hown (hw _ (List.mem_of_getElem? (i := 20) rfl)) Via.refl e3 F_a_atStart_3 E_a_3 (Or.inl (hw _ (List.mem_of_getElem? (i := 21) rfl))) (hw _ (List.mem_of_getElem? (i := 8) rfl)) (ty := .boolean) (v' := .int (nar .boolean (1 : Int32))) (by decide) rfl (fits_nar_bool _) (g := (mkF m 16 #[.val (.ref a), .val (.ref r0)] [(.int (1 : Int32)), (.ref a)])) rfl rfl (hb hby d2_16)
  have V_r0_4 := V_r0_3.other W4 (Nat.ne_of_lt lt_r)
  have E_a_4 := Exa.wr W4 E_a_3
  have F_a_line_4 := Fld.other W4 F_a_line_3 (Or.inr (slot_ne (Or.inl (hw _ (List.mem_of_getElem? (i := 17) rfl))) (Or.inl (hw _ (List.mem_of_getElem? (i := 21) rfl))) (by decide) (t := .int) (t' := .boolean) (by decide) (by decide)))
  have F_a_column_4 := Fld.other W4 F_a_column_3 (Or.inr (slot_ne (Or.inl (hw _ (List.mem_of_getElem? (i := 19) rfl))) (Or.inl (hw _ (List.mem_of_getElem? (i := 21) rfl))) (by decide) (t := .int) (t' := .boolean) (by decide) (by decide)))
  have F_a_reader_4 := Fld.other W4 F_a_reader_3 (Or.inr (slot_ne (Or.inr (hw _ (List.mem_of_getElem? (i := 23) rfl))) (Or.inl (hw _ (List.mem_of_getElem? (i := 21) rfl))) (by decide) (t := (.object "java/io/Reader")) (t' := .boolean) (by decide) (by decide)))
  have F_a_buffer_4 := Fld.other W4 F_a_buffer_3 (Or.inr (slot_ne (Or.inr (hw _ (List.mem_of_getElem? (i := 25) rfl))) (Or.inl (hw _ (List.mem_of_getElem? (i := 21) rfl))) (by decide) (t := (.array .char)) (t' := .boolean) (by decide) (by decide)))
  have F_a_publicId_4 := Fld.other W4 F_a_publicId_3 (Or.inr (slot_ne (Or.inr (hw _ (List.mem_of_getElem? (i := 27) rfl))) (Or.inl (hw _ (List.mem_of_getElem? (i := 21) rfl))) (by decide) (t := (.object "java/lang/String")) (t' := .boolean) (by decide) (by decide)))
  have F_a_systemId_4 := Fld.other W4 F_a_systemId_3 (Or.inr (slot_ne (Or.inr (hw _ (List.mem_of_getElem? (i := 29) rfl))) (Or.inl (hw _ (List.mem_of_getElem? (i := 21) rfl))) (by decide) (t := (.object "java/lang/String")) (t' := .boolean) (by decide) (by decide)))
  have F_a_base_4 := Fld.other W4 F_a_base_3 (Or.inr (slot_ne (Or.inr (hw _ (List.mem_of_getElem? (i := 31) rfl))) (Or.inl (hw _ (List.mem_of_getElem? (i := 21) rfl))) (by decide) (t := (.object "java/lang/String")) (t' := .boolean) (by decide) (by decide)))
  have F_a_givenEncoding_4 := Fld.other W4 F_a_givenEncoding_3 (Or.inr (slot_ne (Or.inr (hw _ (List.mem_of_getElem? (i := 33) rfl))) (Or.inl (hw _ (List.mem_of_getElem? (i := 21) rfl))) (by decide) (t := (.object "java/lang/String")) (t' := .boolean) (by decide) (by decide)))
  have F_a_digestLanes_4 := Fld.other W4 F_a_digestLanes_3 (Or.inr (slot_ne (Or.inr (hw _ (List.mem_of_getElem? (i := 35) rfl))) (Or.inl (hw _ (List.mem_of_getElem? (i := 21) rfl))) (by decide) (t := (.array .long)) (t' := .boolean) (by decide) (by decide)))
  have F_a_checked_4 := Fld.other W4 F_a_checked_3 (Or.inr (slot_ne (Or.inl (hw _ (List.mem_of_getElem? (i := 37) rfl))) (Or.inl (hw _ (List.mem_of_getElem? (i := 21) rfl))) (by decide) (t := .int) (t' := .boolean) (by decide) (by decide)))
  have F_a_limit_4 := Fld.other W4 F_a_limit_3 (Or.inr (slot_ne (Or.inl (hw _ (List.mem_of_getElem? (i := 39) rfl))) (Or.inl (hw _ (List.mem_of_getElem? (i := 21) rfl))) (by decide) (t := .int) (t' := .boolean) (by decide) (by decide)))
  have F_a_checkedSoFar_4 := Fld.other W4 F_a_checkedSoFar_3 (Or.inr (slot_ne (Or.inl (hw _ (List.mem_of_getElem? (i := 41) rfl))) (Or.inl (hw _ (List.mem_of_getElem? (i := 21) rfl))) (by decide) (t := .long) (t' := .boolean) (by decide) (by decide)))
  have F_a_endOfText_4 := Fld.other W4 F_a_endOfText_3 (Or.inr (slot_ne (Or.inl (hw _ (List.mem_of_getElem? (i := 43) rfl))) (Or.inl (hw _ (List.mem_of_getElem? (i := 21) rfl))) (by decide) (t := .boolean) (t' := .boolean) (by decide) (by decide)))
  have F_a_position_4 := Fld.other W4 F_a_position_3 (Or.inr (slot_ne (Or.inl (hw _ (List.mem_of_getElem? (i := 55) rfl))) (Or.inl (hw _ (List.mem_of_getElem? (i := 21) rfl))) (by decide) (t := .int) (t' := .boolean) (by decide) (by decide)))
  have K4 := K3.wr W4 (Or.inl (List.mem_of_getElem? (i := 0) rfl))
  have F_a_atStart_4 : Fld Z h4 a "com/example/virta/virta/Input" "atStart" "Z" (.int (1 : Int32)) := Fld.same W4 F_a_atStart_3
  have N4 := Fr.snoc X4 N3 ga_a
  have sz_4 := Nat.le_trans sz_3 (Nat.le_of_eq (Wr.size W4).symm)
  refine own_go (T' := T4) (g' := (mkF m 19 #[.val (.ref a), .val (.ref r0)] [])) st4 ?_
  refine own_go (T' := T4) (g' := (mkF m 21 #[.val (.ref a), .val (.ref r0)] [.null, (.ref a)])) (fun t k => ?_) ?_
  · show Steps p.tables e below (T4.setTop (mkF m 19 #[.val (.ref a), .val (.ref r0)] [])) t
    refine XS.aloadN X4.here hx rfl (hb hby d2_19) rfl rfl ?_
    show Steps p.tables e below (T4.setTop (mkF m 20 #[.val (.ref a), .val (.ref r0)] [(.ref a)])) _
    refine XS.aconstNull X4.here hx rfl (hb hby d2_20) ?_
    show Steps p.tables e below (T4.setTop (mkF m 21 #[.val (.ref a), .val (.ref r0)] [.null, (.ref a)])) _
    exact k
  obtain ⟨T5, h5, X5, e5, W5, st5⟩ := putF X4 hx hZ hown (host := "") (Or.inl (hw _ (List.mem_of_getElem? (i := 22) rfl))) Via.refl e4 F_a_reader_4 E_a_4 (Or.inr ⟨(hw _ (List.mem_of_getElem? (i := 23) rfl)), rfl, hnm⟩) (hw _ (List.mem_of_getElem? (i := 8) rfl)) (ty := (.object "java/io/Reader")) (by decide) rfl rfl (g := (mkF m 21 #[.val (.ref a), .val (.ref r0)] [.null, (.ref a)])) rfl rfl (hb hby d2_21)
  have V_r0_5 := V_r0_4.other W5 (Nat.ne_of_lt lt_r)
  have E_a_5 := Exa.wr W5 E_a_4
  have F_a_line_5 := Fld.other W5 F_a_line_4 (Or.inr (slot_ne (Or.inl (hw _ (List.mem_of_getElem? (i := 17) rfl))) (Or.inr (hw _ (List.mem_of_getElem? (i := 23) rfl))) (by decide) (t := .int) (t' := (.object "java/io/Reader")) (by decide) (by decide)))
  have F_a_column_5 := Fld.other W5 F_a_column_4 (Or.inr (slot_ne (Or.inl (hw _ (List.mem_of_getElem? (i := 19) rfl))) (Or.inr (hw _ (List.mem_of_getElem? (i := 23) rfl))) (by decide) (t := .int) (t' := (.object "java/io/Reader")) (by decide) (by decide)))
  have F_a_buffer_5 := Fld.other W5 F_a_buffer_4 (Or.inr (slot_ne (Or.inr (hw _ (List.mem_of_getElem? (i := 25) rfl))) (Or.inr (hw _ (List.mem_of_getElem? (i := 23) rfl))) (by decide) (t := (.array .char)) (t' := (.object "java/io/Reader")) (by decide) (by decide)))
  have F_a_publicId_5 := Fld.other W5 F_a_publicId_4 (Or.inr (slot_ne (Or.inr (hw _ (List.mem_of_getElem? (i := 27) rfl))) (Or.inr (hw _ (List.mem_of_getElem? (i := 23) rfl))) (by decide) (t := (.object "java/lang/String")) (t' := (.object "java/io/Reader")) (by decide) (by decide)))
  have F_a_systemId_5 := Fld.other W5 F_a_systemId_4 (Or.inr (slot_ne (Or.inr (hw _ (List.mem_of_getElem? (i := 29) rfl))) (Or.inr (hw _ (List.mem_of_getElem? (i := 23) rfl))) (by decide) (t := (.object "java/lang/String")) (t' := (.object "java/io/Reader")) (by decide) (by decide)))
  have F_a_base_5 := Fld.other W5 F_a_base_4 (Or.inr (slot_ne (Or.inr (hw _ (List.mem_of_getElem? (i := 31) rfl))) (Or.inr (hw _ (List.mem_of_getElem? (i := 23) rfl))) (by decide) (t := (.object "java/lang/String")) (t' := (.object "java/io/Reader")) (by decide) (by decide)))
  have F_a_givenEncoding_5 := Fld.other W5 F_a_givenEncoding_4 (Or.inr (slot_ne (Or.inr (hw _ (List.mem_of_getElem? (i := 33) rfl))) (Or.inr (hw _ (List.mem_of_getElem? (i := 23) rfl))) (by decide) (t := (.object "java/lang/String")) (t' := (.object "java/io/Reader")) (by decide) (by decide)))
  have F_a_digestLanes_5 := Fld.other W5 F_a_digestLanes_4 (Or.inr (slot_ne (Or.inr (hw _ (List.mem_of_getElem? (i := 35) rfl))) (Or.inr (hw _ (List.mem_of_getElem? (i := 23) rfl))) (by decide) (t := (.array .long)) (t' := (.object "java/io/Reader")) (by decide) (by decide)))
  have F_a_checked_5 := Fld.other W5 F_a_checked_4 (Or.inr (slot_ne (Or.inl (hw _ (List.mem_of_getElem? (i := 37) rfl))) (Or.inr (hw _ (List.mem_of_getElem? (i := 23) rfl))) (by decide) (t := .int) (t' := (.object "java/io/Reader")) (by decide) (by decide)))
  have F_a_limit_5 := Fld.other W5 F_a_limit_4 (Or.inr (slot_ne (Or.inl (hw _ (List.mem_of_getElem? (i := 39) rfl))) (Or.inr (hw _ (List.mem_of_getElem? (i := 23) rfl))) (by decide) (t := .int) (t' := (.object "java/io/Reader")) (by decide) (by decide)))
  have F_a_checkedSoFar_5 := Fld.other W5 F_a_checkedSoFar_4 (Or.inr (slot_ne (Or.inl (hw _ (List.mem_of_getElem? (i := 41) rfl))) (Or.inr (hw _ (List.mem_of_getElem? (i := 23) rfl))) (by decide) (t := .long) (t' := (.object "java/io/Reader")) (by decide) (by decide)))
  have F_a_endOfText_5 := Fld.other W5 F_a_endOfText_4 (Or.inr (slot_ne (Or.inl (hw _ (List.mem_of_getElem? (i := 43) rfl))) (Or.inr (hw _ (List.mem_of_getElem? (i := 23) rfl))) (by decide) (t := .boolean) (t' := (.object "java/io/Reader")) (by decide) (by decide)))
  have F_a_position_5 := Fld.other W5 F_a_position_4 (Or.inr (slot_ne (Or.inl (hw _ (List.mem_of_getElem? (i := 55) rfl))) (Or.inr (hw _ (List.mem_of_getElem? (i := 23) rfl))) (by decide) (t := .int) (t' := (.object "java/io/Reader")) (by decide) (by decide)))
  have K5 := K4.wr W5 (Or.inl (List.mem_of_getElem? (i := 0) rfl))
  have F_a_reader_5 : Fld Z h5 a "com/example/virta/virta/Input" "reader" "Ljava/io/Reader;" .null := Fld.same W5 F_a_reader_4
  have N5 := Fr.snoc X5 N4 ga_a
  have sz_5 := Nat.le_trans sz_4 (Nat.le_of_eq (Wr.size W5).symm)
  refine own_go (T' := T5) (g' := (mkF m 24 #[.val (.ref a), .val (.ref r0)] [])) st5 ?_
  refine own_go (T' := T5) (g' := (mkF m 26 #[.val (.ref a), .val (.ref r0)] [(.ref r0), (.ref a)])) (fun t k => ?_) ?_
  · show Steps p.tables e below (T5.setTop (mkF m 24 #[.val (.ref a), .val (.ref r0)] [])) t
    refine XS.aloadN X5.here hx rfl (hb hby d2_24) rfl rfl ?_
    show Steps p.tables e below (T5.setTop (mkF m 25 #[.val (.ref a), .val (.ref r0)] [(.ref a)])) _
    refine XS.aloadN X5.here hx rfl (hb hby d2_25) rfl rfl ?_
    show Steps p.tables e below (T5.setTop (mkF m 26 #[.val (.ref a), .val (.ref r0)] [(.ref r0), (.ref a)])) _
    exact k
  obtain ⟨T6, h6, X6, e6, W6, st6⟩ := putF X5 hx hZ hown (host := "") (Or.inl (hw _ (List.mem_of_getElem? (i := 24) rfl))) Via.refl e5 F_a_buffer_5 E_a_5 (Or.inr ⟨(hw _ (List.mem_of_getElem? (i := 25) rfl)), rfl, hnm⟩) (hw _ (List.mem_of_getElem? (i := 8) rfl)) (ty := (.array .char)) (by decide) rfl rfl (g := (mkF m 26 #[.val (.ref a), .val (.ref r0)] [(.ref r0), (.ref a)])) rfl rfl (hb hby d2_26)
  have V_r0_6 := V_r0_5.other W6 (Nat.ne_of_lt lt_r)
  have E_a_6 := Exa.wr W6 E_a_5
  have F_a_line_6 := Fld.other W6 F_a_line_5 (Or.inr (slot_ne (Or.inl (hw _ (List.mem_of_getElem? (i := 17) rfl))) (Or.inr (hw _ (List.mem_of_getElem? (i := 25) rfl))) (by decide) (t := .int) (t' := (.array .char)) (by decide) (by decide)))
  have F_a_column_6 := Fld.other W6 F_a_column_5 (Or.inr (slot_ne (Or.inl (hw _ (List.mem_of_getElem? (i := 19) rfl))) (Or.inr (hw _ (List.mem_of_getElem? (i := 25) rfl))) (by decide) (t := .int) (t' := (.array .char)) (by decide) (by decide)))
  have F_a_publicId_6 := Fld.other W6 F_a_publicId_5 (Or.inr (slot_ne (Or.inr (hw _ (List.mem_of_getElem? (i := 27) rfl))) (Or.inr (hw _ (List.mem_of_getElem? (i := 25) rfl))) (by decide) (t := (.object "java/lang/String")) (t' := (.array .char)) (by decide) (by decide)))
  have F_a_systemId_6 := Fld.other W6 F_a_systemId_5 (Or.inr (slot_ne (Or.inr (hw _ (List.mem_of_getElem? (i := 29) rfl))) (Or.inr (hw _ (List.mem_of_getElem? (i := 25) rfl))) (by decide) (t := (.object "java/lang/String")) (t' := (.array .char)) (by decide) (by decide)))
  have F_a_base_6 := Fld.other W6 F_a_base_5 (Or.inr (slot_ne (Or.inr (hw _ (List.mem_of_getElem? (i := 31) rfl))) (Or.inr (hw _ (List.mem_of_getElem? (i := 25) rfl))) (by decide) (t := (.object "java/lang/String")) (t' := (.array .char)) (by decide) (by decide)))
  have F_a_givenEncoding_6 := Fld.other W6 F_a_givenEncoding_5 (Or.inr (slot_ne (Or.inr (hw _ (List.mem_of_getElem? (i := 33) rfl))) (Or.inr (hw _ (List.mem_of_getElem? (i := 25) rfl))) (by decide) (t := (.object "java/lang/String")) (t' := (.array .char)) (by decide) (by decide)))
  have F_a_digestLanes_6 := Fld.other W6 F_a_digestLanes_5 (Or.inr (slot_ne (Or.inr (hw _ (List.mem_of_getElem? (i := 35) rfl))) (Or.inr (hw _ (List.mem_of_getElem? (i := 25) rfl))) (by decide) (t := (.array .long)) (t' := (.array .char)) (by decide) (by decide)))
  have F_a_checked_6 := Fld.other W6 F_a_checked_5 (Or.inr (slot_ne (Or.inl (hw _ (List.mem_of_getElem? (i := 37) rfl))) (Or.inr (hw _ (List.mem_of_getElem? (i := 25) rfl))) (by decide) (t := .int) (t' := (.array .char)) (by decide) (by decide)))
  have F_a_limit_6 := Fld.other W6 F_a_limit_5 (Or.inr (slot_ne (Or.inl (hw _ (List.mem_of_getElem? (i := 39) rfl))) (Or.inr (hw _ (List.mem_of_getElem? (i := 25) rfl))) (by decide) (t := .int) (t' := (.array .char)) (by decide) (by decide)))
  have F_a_checkedSoFar_6 := Fld.other W6 F_a_checkedSoFar_5 (Or.inr (slot_ne (Or.inl (hw _ (List.mem_of_getElem? (i := 41) rfl))) (Or.inr (hw _ (List.mem_of_getElem? (i := 25) rfl))) (by decide) (t := .long) (t' := (.array .char)) (by decide) (by decide)))
  have F_a_endOfText_6 := Fld.other W6 F_a_endOfText_5 (Or.inr (slot_ne (Or.inl (hw _ (List.mem_of_getElem? (i := 43) rfl))) (Or.inr (hw _ (List.mem_of_getElem? (i := 25) rfl))) (by decide) (t := .boolean) (t' := (.array .char)) (by decide) (by decide)))
  have F_a_position_6 := Fld.other W6 F_a_position_5 (Or.inr (slot_ne (Or.inl (hw _ (List.mem_of_getElem? (i := 55) rfl))) (Or.inr (hw _ (List.mem_of_getElem? (i := 25) rfl))) (by decide) (t := .int) (t' := (.array .char)) (by decide) (by decide)))
  have K6 := K5.wr W6 (Or.inl (List.mem_of_getElem? (i := 0) rfl))
  have F_a_buffer_6 : Fld Z h6 a "com/example/virta/virta/Input" "buffer" "[C" (.ref r0) := Fld.same W6 F_a_buffer_5
  have N6 := Fr.snoc X6 N5 ga_a
  have sz_6 := Nat.le_trans sz_5 (Nat.le_of_eq (Wr.size W6).symm)
  refine own_go (T' := T6) (g' := (mkF m 29 #[.val (.ref a), .val (.ref r0)] [])) st6 ?_
  refine own_go (T' := T6) (g' := (mkF m 31 #[.val (.ref a), .val (.ref r0)] [.null, (.ref a)])) (fun t k => ?_) ?_
  · show Steps p.tables e below (T6.setTop (mkF m 29 #[.val (.ref a), .val (.ref r0)] [])) t
    refine XS.aloadN X6.here hx rfl (hb hby d2_29) rfl rfl ?_
    show Steps p.tables e below (T6.setTop (mkF m 30 #[.val (.ref a), .val (.ref r0)] [(.ref a)])) _
    refine XS.aconstNull X6.here hx rfl (hb hby d2_30) ?_
    show Steps p.tables e below (T6.setTop (mkF m 31 #[.val (.ref a), .val (.ref r0)] [.null, (.ref a)])) _
    exact k
  obtain ⟨T7, h7, X7, e7, W7, st7⟩ := putF X6 hx hZ hown (host := "") (Or.inl (hw _ (List.mem_of_getElem? (i := 26) rfl))) Via.refl e6 F_a_publicId_6 E_a_6 (Or.inr ⟨(hw _ (List.mem_of_getElem? (i := 27) rfl)), rfl, hnm⟩) (hw _ (List.mem_of_getElem? (i := 8) rfl)) (ty := (.object "java/lang/String")) (by decide) rfl rfl (g := (mkF m 31 #[.val (.ref a), .val (.ref r0)] [.null, (.ref a)])) rfl rfl (hb hby d2_31)
  have V_r0_7 := V_r0_6.other W7 (Nat.ne_of_lt lt_r)
  have E_a_7 := Exa.wr W7 E_a_6
  have F_a_line_7 := Fld.other W7 F_a_line_6 (Or.inr (slot_ne (Or.inl (hw _ (List.mem_of_getElem? (i := 17) rfl))) (Or.inr (hw _ (List.mem_of_getElem? (i := 27) rfl))) (by decide) (t := .int) (t' := (.object "java/lang/String")) (by decide) (by decide)))
  have F_a_column_7 := Fld.other W7 F_a_column_6 (Or.inr (slot_ne (Or.inl (hw _ (List.mem_of_getElem? (i := 19) rfl))) (Or.inr (hw _ (List.mem_of_getElem? (i := 27) rfl))) (by decide) (t := .int) (t' := (.object "java/lang/String")) (by decide) (by decide)))
  have F_a_buffer_7 := Fld.other W7 F_a_buffer_6 (Or.inr (slot_ne (Or.inr (hw _ (List.mem_of_getElem? (i := 25) rfl))) (Or.inr (hw _ (List.mem_of_getElem? (i := 27) rfl))) (by decide) (t := (.array .char)) (t' := (.object "java/lang/String")) (by decide) (by decide)))
  have F_a_systemId_7 := Fld.other W7 F_a_systemId_6 (Or.inr (slot_ne (Or.inr (hw _ (List.mem_of_getElem? (i := 29) rfl))) (Or.inr (hw _ (List.mem_of_getElem? (i := 27) rfl))) (by decide) (t := (.object "java/lang/String")) (t' := (.object "java/lang/String")) (by decide) (by decide)))
  have F_a_base_7 := Fld.other W7 F_a_base_6 (Or.inr (slot_ne (Or.inr (hw _ (List.mem_of_getElem? (i := 31) rfl))) (Or.inr (hw _ (List.mem_of_getElem? (i := 27) rfl))) (by decide) (t := (.object "java/lang/String")) (t' := (.object "java/lang/String")) (by decide) (by decide)))
  have F_a_givenEncoding_7 := Fld.other W7 F_a_givenEncoding_6 (Or.inr (slot_ne (Or.inr (hw _ (List.mem_of_getElem? (i := 33) rfl))) (Or.inr (hw _ (List.mem_of_getElem? (i := 27) rfl))) (by decide) (t := (.object "java/lang/String")) (t' := (.object "java/lang/String")) (by decide) (by decide)))
  have F_a_digestLanes_7 := Fld.other W7 F_a_digestLanes_6 (Or.inr (slot_ne (Or.inr (hw _ (List.mem_of_getElem? (i := 35) rfl))) (Or.inr (hw _ (List.mem_of_getElem? (i := 27) rfl))) (by decide) (t := (.array .long)) (t' := (.object "java/lang/String")) (by decide) (by decide)))
  have F_a_checked_7 := Fld.other W7 F_a_checked_6 (Or.inr (slot_ne (Or.inl (hw _ (List.mem_of_getElem? (i := 37) rfl))) (Or.inr (hw _ (List.mem_of_getElem? (i := 27) rfl))) (by decide) (t := .int) (t' := (.object "java/lang/String")) (by decide) (by decide)))
  have F_a_limit_7 := Fld.other W7 F_a_limit_6 (Or.inr (slot_ne (Or.inl (hw _ (List.mem_of_getElem? (i := 39) rfl))) (Or.inr (hw _ (List.mem_of_getElem? (i := 27) rfl))) (by decide) (t := .int) (t' := (.object "java/lang/String")) (by decide) (by decide)))
  have F_a_checkedSoFar_7 := Fld.other W7 F_a_checkedSoFar_6 (Or.inr (slot_ne (Or.inl (hw _ (List.mem_of_getElem? (i := 41) rfl))) (Or.inr (hw _ (List.mem_of_getElem? (i := 27) rfl))) (by decide) (t := .long) (t' := (.object "java/lang/String")) (by decide) (by decide)))
  have F_a_endOfText_7 := Fld.other W7 F_a_endOfText_6 (Or.inr (slot_ne (Or.inl (hw _ (List.mem_of_getElem? (i := 43) rfl))) (Or.inr (hw _ (List.mem_of_getElem? (i := 27) rfl))) (by decide) (t := .boolean) (t' := (.object "java/lang/String")) (by decide) (by decide)))
  have F_a_position_7 := Fld.other W7 F_a_position_6 (Or.inr (slot_ne (Or.inl (hw _ (List.mem_of_getElem? (i := 55) rfl))) (Or.inr (hw _ (List.mem_of_getElem? (i := 27) rfl))) (by decide) (t := .int) (t' := (.object "java/lang/String")) (by decide) (by decide)))
  have K7 := K6.wr W7 (Or.inl (List.mem_of_getElem? (i := 0) rfl))
  have F_a_publicId_7 : Fld Z h7 a "com/example/virta/virta/Input" "publicId" "Ljava/lang/String;" .null := Fld.same W7 F_a_publicId_6
  have N7 := Fr.snoc X7 N6 ga_a
  have sz_7 := Nat.le_trans sz_6 (Nat.le_of_eq (Wr.size W7).symm)
  refine own_go (T' := T7) (g' := (mkF m 34 #[.val (.ref a), .val (.ref r0)] [])) st7 ?_
  refine own_go (T' := T7) (g' := (mkF m 36 #[.val (.ref a), .val (.ref r0)] [.null, (.ref a)])) (fun t k => ?_) ?_
  · show Steps p.tables e below (T7.setTop (mkF m 34 #[.val (.ref a), .val (.ref r0)] [])) t
    refine XS.aloadN X7.here hx rfl (hb hby d2_34) rfl rfl ?_
    show Steps p.tables e below (T7.setTop (mkF m 35 #[.val (.ref a), .val (.ref r0)] [(.ref a)])) _
    refine XS.aconstNull X7.here hx rfl (hb hby d2_35) ?_
    show Steps p.tables e below (T7.setTop (mkF m 36 #[.val (.ref a), .val (.ref r0)] [.null, (.ref a)])) _
    exact k
  obtain ⟨T8, h8, X8, e8, W8, st8⟩ := putF X7 hx hZ hown (host := "") (Or.inl (hw _ (List.mem_of_getElem? (i := 28) rfl))) Via.refl e7 F_a_systemId_7 E_a_7 (Or.inr ⟨(hw _ (List.mem_of_getElem? (i := 29) rfl)), rfl, hnm⟩) (hw _ (List.mem_of_getElem? (i := 8) rfl)) (ty := (.object "java/lang/String")) (by decide) rfl rfl (g := (mkF m 36 #[.val (.ref a), .val (.ref r0)] [.null, (.ref a)])) rfl rfl (hb hby d2_36)
  have V_r0_8 := V_r0_7.other W8 (Nat.ne_of_lt lt_r)
  have E_a_8 := Exa.wr W8 E_a_7
  have F_a_line_8 := Fld.other W8 F_a_line_7 (Or.inr (slot_ne (Or.inl (hw _ (List.mem_of_getElem? (i := 17) rfl))) (Or.inr (hw _ (List.mem_of_getElem? (i := 29) rfl))) (by decide) (t := .int) (t' := (.object "java/lang/String")) (by decide) (by decide)))
  have F_a_column_8 := Fld.other W8 F_a_column_7 (Or.inr (slot_ne (Or.inl (hw _ (List.mem_of_getElem? (i := 19) rfl))) (Or.inr (hw _ (List.mem_of_getElem? (i := 29) rfl))) (by decide) (t := .int) (t' := (.object "java/lang/String")) (by decide) (by decide)))
  have F_a_buffer_8 := Fld.other W8 F_a_buffer_7 (Or.inr (slot_ne (Or.inr (hw _ (List.mem_of_getElem? (i := 25) rfl))) (Or.inr (hw _ (List.mem_of_getElem? (i := 29) rfl))) (by decide) (t := (.array .char)) (t' := (.object "java/lang/String")) (by decide) (by decide)))
  have F_a_base_8 := Fld.other W8 F_a_base_7 (Or.inr (slot_ne (Or.inr (hw _ (List.mem_of_getElem? (i := 31) rfl))) (Or.inr (hw _ (List.mem_of_getElem? (i := 29) rfl))) (by decide) (t := (.object "java/lang/String")) (t' := (.object "java/lang/String")) (by decide) (by decide)))
  have F_a_givenEncoding_8 := Fld.other W8 F_a_givenEncoding_7 (Or.inr (slot_ne (Or.inr (hw _ (List.mem_of_getElem? (i := 33) rfl))) (Or.inr (hw _ (List.mem_of_getElem? (i := 29) rfl))) (by decide) (t := (.object "java/lang/String")) (t' := (.object "java/lang/String")) (by decide) (by decide)))
  have F_a_digestLanes_8 := Fld.other W8 F_a_digestLanes_7 (Or.inr (slot_ne (Or.inr (hw _ (List.mem_of_getElem? (i := 35) rfl))) (Or.inr (hw _ (List.mem_of_getElem? (i := 29) rfl))) (by decide) (t := (.array .long)) (t' := (.object "java/lang/String")) (by decide) (by decide)))
  have F_a_checked_8 := Fld.other W8 F_a_checked_7 (Or.inr (slot_ne (Or.inl (hw _ (List.mem_of_getElem? (i := 37) rfl))) (Or.inr (hw _ (List.mem_of_getElem? (i := 29) rfl))) (by decide) (t := .int) (t' := (.object "java/lang/String")) (by decide) (by decide)))
  have F_a_limit_8 := Fld.other W8 F_a_limit_7 (Or.inr (slot_ne (Or.inl (hw _ (List.mem_of_getElem? (i := 39) rfl))) (Or.inr (hw _ (List.mem_of_getElem? (i := 29) rfl))) (by decide) (t := .int) (t' := (.object "java/lang/String")) (by decide) (by decide)))
  have F_a_checkedSoFar_8 := Fld.other W8 F_a_checkedSoFar_7 (Or.inr (slot_ne (Or.inl (hw _ (List.mem_of_getElem? (i := 41) rfl))) (Or.inr (hw _ (List.mem_of_getElem? (i := 29) rfl))) (by decide) (t := .long) (t' := (.object "java/lang/String")) (by decide) (by decide)))
  have F_a_endOfText_8 := Fld.other W8 F_a_endOfText_7 (Or.inr (slot_ne (Or.inl (hw _ (List.mem_of_getElem? (i := 43) rfl))) (Or.inr (hw _ (List.mem_of_getElem? (i := 29) rfl))) (by decide) (t := .boolean) (t' := (.object "java/lang/String")) (by decide) (by decide)))
  have F_a_position_8 := Fld.other W8 F_a_position_7 (Or.inr (slot_ne (Or.inl (hw _ (List.mem_of_getElem? (i := 55) rfl))) (Or.inr (hw _ (List.mem_of_getElem? (i := 29) rfl))) (by decide) (t := .int) (t' := (.object "java/lang/String")) (by decide) (by decide)))
  have K8 := K7.wr W8 (Or.inl (List.mem_of_getElem? (i := 0) rfl))
  have F_a_systemId_8 : Fld Z h8 a "com/example/virta/virta/Input" "systemId" "Ljava/lang/String;" .null := Fld.same W8 F_a_systemId_7
  have N8 := Fr.snoc X8 N7 ga_a
  have sz_8 := Nat.le_trans sz_7 (Nat.le_of_eq (Wr.size W8).symm)
  refine own_go (T' := T8) (g' := (mkF m 39 #[.val (.ref a), .val (.ref r0)] [])) st8 ?_
  refine own_go (T' := T8) (g' := (mkF m 41 #[.val (.ref a), .val (.ref r0)] [.null, (.ref a)])) (fun t k => ?_) ?_
  · show Steps p.tables e below (T8.setTop (mkF m 39 #[.val (.ref a), .val (.ref r0)] [])) t
    refine XS.aloadN X8.here hx rfl (hb hby d2_39) rfl rfl ?_
    show Steps p.tables e below (T8.setTop (mkF m 40 #[.val (.ref a), .val (.ref r0)] [(.ref a)])) _
    refine XS.aconstNull X8.here hx rfl (hb hby d2_40) ?_
    show Steps p.tables e below (T8.setTop (mkF m 41 #[.val (.ref a), .val (.ref r0)] [.null, (.ref a)])) _
    exact k
  obtain ⟨T9, h9, X9, e9, W9, st9⟩ := putF X8 hx hZ hown (host := "") (Or.inl (hw _ (List.mem_of_getElem? (i := 30) rfl))) Via.refl e8 F_a_base_8 E_a_8 (Or.inr ⟨(hw _ (List.mem_of_getElem? (i := 31) rfl)), rfl, hnm⟩) (hw _ (List.mem_of_getElem? (i := 8) rfl)) (ty := (.object "java/lang/String")) (by decide) rfl rfl (g := (mkF m 41 #[.val (.ref a), .val (.ref r0)] [.null, (.ref a)])) rfl rfl (hb hby d2_41)
  have V_r0_9 := V_r0_8.other W9 (Nat.ne_of_lt lt_r)
  have E_a_9 := Exa.wr W9 E_a_8
  have F_a_line_9 := Fld.other W9 F_a_line_8 (Or.inr (slot_ne (Or.inl (hw _ (List.mem_of_getElem? (i := 17) rfl))) (Or.inr (hw _ (List.mem_of_getElem? (i := 31) rfl))) (by decide) (t := .int) (t' := (.object "java/lang/String")) (by decide) (by decide)))
  have F_a_column_9 := Fld.other W9 F_a_column_8 (Or.inr (slot_ne (Or.inl (hw _ (List.mem_of_getElem? (i := 19) rfl))) (Or.inr (hw _ (List.mem_of_getElem? (i := 31) rfl))) (by decide) (t := .int) (t' := (.object "java/lang/String")) (by decide) (by decide)))
  have F_a_buffer_9 := Fld.other W9 F_a_buffer_8 (Or.inr (slot_ne (Or.inr (hw _ (List.mem_of_getElem? (i := 25) rfl))) (Or.inr (hw _ (List.mem_of_getElem? (i := 31) rfl))) (by decide) (t := (.array .char)) (t' := (.object "java/lang/String")) (by decide) (by decide)))
  have F_a_givenEncoding_9 := Fld.other W9 F_a_givenEncoding_8 (Or.inr (slot_ne (Or.inr (hw _ (List.mem_of_getElem? (i := 33) rfl))) (Or.inr (hw _ (List.mem_of_getElem? (i := 31) rfl))) (by decide) (t := (.object "java/lang/String")) (t' := (.object "java/lang/String")) (by decide) (by decide)))
  have F_a_digestLanes_9 := Fld.other W9 F_a_digestLanes_8 (Or.inr (slot_ne (Or.inr (hw _ (List.mem_of_getElem? (i := 35) rfl))) (Or.inr (hw _ (List.mem_of_getElem? (i := 31) rfl))) (by decide) (t := (.array .long)) (t' := (.object "java/lang/String")) (by decide) (by decide)))
  have F_a_checked_9 := Fld.other W9 F_a_checked_8 (Or.inr (slot_ne (Or.inl (hw _ (List.mem_of_getElem? (i := 37) rfl))) (Or.inr (hw _ (List.mem_of_getElem? (i := 31) rfl))) (by decide) (t := .int) (t' := (.object "java/lang/String")) (by decide) (by decide)))
  have F_a_limit_9 := Fld.other W9 F_a_limit_8 (Or.inr (slot_ne (Or.inl (hw _ (List.mem_of_getElem? (i := 39) rfl))) (Or.inr (hw _ (List.mem_of_getElem? (i := 31) rfl))) (by decide) (t := .int) (t' := (.object "java/lang/String")) (by decide) (by decide)))
  have F_a_checkedSoFar_9 := Fld.other W9 F_a_checkedSoFar_8 (Or.inr (slot_ne (Or.inl (hw _ (List.mem_of_getElem? (i := 41) rfl))) (Or.inr (hw _ (List.mem_of_getElem? (i := 31) rfl))) (by decide) (t := .long) (t' := (.object "java/lang/String")) (by decide) (by decide)))
  have F_a_endOfText_9 := Fld.other W9 F_a_endOfText_8 (Or.inr (slot_ne (Or.inl (hw _ (List.mem_of_getElem? (i := 43) rfl))) (Or.inr (hw _ (List.mem_of_getElem? (i := 31) rfl))) (by decide) (t := .boolean) (t' := (.object "java/lang/String")) (by decide) (by decide)))
  have F_a_position_9 := Fld.other W9 F_a_position_8 (Or.inr (slot_ne (Or.inl (hw _ (List.mem_of_getElem? (i := 55) rfl))) (Or.inr (hw _ (List.mem_of_getElem? (i := 31) rfl))) (by decide) (t := .int) (t' := (.object "java/lang/String")) (by decide) (by decide)))
  have K9 := K8.wr W9 (Or.inl (List.mem_of_getElem? (i := 0) rfl))
  have F_a_base_9 : Fld Z h9 a "com/example/virta/virta/Input" "base" "Ljava/lang/String;" .null := Fld.same W9 F_a_base_8
  have N9 := Fr.snoc X9 N8 ga_a
  have sz_9 := Nat.le_trans sz_8 (Nat.le_of_eq (Wr.size W9).symm)
  refine own_go (T' := T9) (g' := (mkF m 44 #[.val (.ref a), .val (.ref r0)] [])) st9 ?_
  refine own_go (T' := T9) (g' := (mkF m 46 #[.val (.ref a), .val (.ref r0)] [.null, (.ref a)])) (fun t k => ?_) ?_
  · show Steps p.tables e below (T9.setTop (mkF m 44 #[.val (.ref a), .val (.ref r0)] [])) t
    refine XS.aloadN X9.here hx rfl (hb hby d2_44) rfl rfl ?_
    show Steps p.tables e below (T9.setTop (mkF m 45 #[.val (.ref a), .val (.ref r0)] [(.ref a)])) _
    refine XS.aconstNull X9.here hx rfl (hb hby d2_45) ?_
    show Steps p.tables e below (T9.setTop (mkF m 46 #[.val (.ref a), .val (.ref r0)] [.null, (.ref a)])) _
    exact k
  obtain ⟨T10, h10, X10, e10, W10, st10⟩ := putF X9 hx hZ hown (host := "") (Or.inl (hw _ (List.mem_of_getElem? (i := 32) rfl))) Via.refl e9 F_a_givenEncoding_9 E_a_9 (Or.inr ⟨(hw _ (List.mem_of_getElem? (i := 33) rfl)), rfl, hnm⟩) (hw _ (List.mem_of_getElem? (i := 8) rfl)) (ty := (.object "java/lang/String")) (by decide) rfl rfl (g := (mkF m 46 #[.val (.ref a), .val (.ref r0)] [.null, (.ref a)])) rfl rfl (hb hby d2_46)
  have V_r0_10 := V_r0_9.other W10 (Nat.ne_of_lt lt_r)
  have E_a_10 := Exa.wr W10 E_a_9
  have F_a_line_10 := Fld.other W10 F_a_line_9 (Or.inr (slot_ne (Or.inl (hw _ (List.mem_of_getElem? (i := 17) rfl))) (Or.inr (hw _ (List.mem_of_getElem? (i := 33) rfl))) (by decide) (t := .int) (t' := (.object "java/lang/String")) (by decide) (by decide)))
  have F_a_column_10 := Fld.other W10 F_a_column_9 (Or.inr (slot_ne (Or.inl (hw _ (List.mem_of_getElem? (i := 19) rfl))) (Or.inr (hw _ (List.mem_of_getElem? (i := 33) rfl))) (by decide) (t := .int) (t' := (.object "java/lang/String")) (by decide) (by decide)))
  have F_a_buffer_10 := Fld.other W10 F_a_buffer_9 (Or.inr (slot_ne (Or.inr (hw _ (List.mem_of_getElem? (i := 25) rfl))) (Or.inr (hw _ (List.mem_of_getElem? (i := 33) rfl))) (by decide) (t := (.array .char)) (t' := (.object "java/lang/String")) (by decide) (by decide)))
  have F_a_digestLanes_10 := Fld.other W10 F_a_digestLanes_9 (Or.inr (slot_ne (Or.inr (hw _ (List.mem_of_getElem? (i := 35) rfl))) (Or.inr (hw _ (List.mem_of_getElem? (i := 33) rfl))) (by decide) (t := (.array .long)) (t' := (.object "java/lang/String")) (by decide) (by decide)))
  have F_a_checked_10 := Fld.other W10 F_a_checked_9 (Or.inr (slot_ne (Or.inl (hw _ (List.mem_of_getElem? (i := 37) rfl))) (Or.inr (hw _ (List.mem_of_getElem? (i := 33) rfl))) (by decide) (t := .int) (t' := (.object "java/lang/String")) (by decide) (by decide)))
  have F_a_limit_10 := Fld.other W10 F_a_limit_9 (Or.inr (slot_ne (Or.inl (hw _ (List.mem_of_getElem? (i := 39) rfl))) (Or.inr (hw _ (List.mem_of_getElem? (i := 33) rfl))) (by decide) (t := .int) (t' := (.object "java/lang/String")) (by decide) (by decide)))
  have F_a_checkedSoFar_10 := Fld.other W10 F_a_checkedSoFar_9 (Or.inr (slot_ne (Or.inl (hw _ (List.mem_of_getElem? (i := 41) rfl))) (Or.inr (hw _ (List.mem_of_getElem? (i := 33) rfl))) (by decide) (t := .long) (t' := (.object "java/lang/String")) (by decide) (by decide)))
  have F_a_endOfText_10 := Fld.other W10 F_a_endOfText_9 (Or.inr (slot_ne (Or.inl (hw _ (List.mem_of_getElem? (i := 43) rfl))) (Or.inr (hw _ (List.mem_of_getElem? (i := 33) rfl))) (by decide) (t := .boolean) (t' := (.object "java/lang/String")) (by decide) (by decide)))
  have F_a_position_10 := Fld.other W10 F_a_position_9 (Or.inr (slot_ne (Or.inl (hw _ (List.mem_of_getElem? (i := 55) rfl))) (Or.inr (hw _ (List.mem_of_getElem? (i := 33) rfl))) (by decide) (t := .int) (t' := (.object "java/lang/String")) (by decide) (by decide)))
  have K10 := K9.wr W10 (Or.inl (List.mem_of_getElem? (i := 0) rfl))
  have F_a_givenEncoding_10 : Fld Z h10 a "com/example/virta/virta/Input" "givenEncoding" "Ljava/lang/String;" .null := Fld.same W10 F_a_givenEncoding_9
  have N10 := Fr.snoc X10 N9 ga_a
  have sz_10 := Nat.le_trans sz_9 (Nat.le_of_eq (Wr.size W10).symm)
  refine own_go (T' := T10) (g' := (mkF m 49 #[.val (.ref a), .val (.ref r0)] [])) st10 ?_
  refine own_go (T' := T10) (g' := (mkF m 51 #[.val (.ref a), .val (.ref r0)] [.null, (.ref a)])) (fun t k => ?_) ?_
  · show Steps p.tables e below (T10.setTop (mkF m 49 #[.val (.ref a), .val (.ref r0)] [])) t
    refine XS.aloadN X10.here hx rfl (hb hby d2_49) rfl rfl ?_
    show Steps p.tables e below (T10.setTop (mkF m 50 #[.val (.ref a), .val (.ref r0)] [(.ref a)])) _
    refine XS.aconstNull X10.here hx rfl (hb hby d2_50) ?_
    show Steps p.tables e below (T10.setTop (mkF m 51 #[.val (.ref a), .val (.ref r0)] [.null, (.ref a)])) _
    exact k
  obtain ⟨T11, h11, X11, e11, W11, st11⟩ := putF X10 hx hZ hown (host := "") (Or.inl (hw _ (List.mem_of_getElem? (i := 34) rfl))) Via.refl e10 F_a_digestLanes_10 E_a_10 (Or.inr ⟨(hw _ (List.mem_of_getElem? (i := 35) rfl)), rfl, hnm⟩) (hw _ (List.mem_of_getElem? (i := 8) rfl)) (ty := (.array .long)) (by decide) rfl rfl (g := (mkF m 51 #[.val (.ref a), .val (.ref r0)] [.null, (.ref a)])) rfl rfl (hb hby d2_51)
  have V_r0_11 := V_r0_10.other W11 (Nat.ne_of_lt lt_r)
  have E_a_11 := Exa.wr W11 E_a_10
  have F_a_line_11 := Fld.other W11 F_a_line_10 (Or.inr (slot_ne (Or.inl (hw _ (List.mem_of_getElem? (i := 17) rfl))) (Or.inr (hw _ (List.mem_of_getElem? (i := 35) rfl))) (by decide) (t := .int) (t' := (.array .long)) (by decide) (by decide)))
  have F_a_column_11 := Fld.other W11 F_a_column_10 (Or.inr (slot_ne (Or.inl (hw _ (List.mem_of_getElem? (i := 19) rfl))) (Or.inr (hw _ (List.mem_of_getElem? (i := 35) rfl))) (by decide) (t := .int) (t' := (.array .long)) (by decide) (by decide)))
  have F_a_buffer_11 := Fld.other W11 F_a_buffer_10 (Or.inr (slot_ne (Or.inr (hw _ (List.mem_of_getElem? (i := 25) rfl))) (Or.inr (hw _ (List.mem_of_getElem? (i := 35) rfl))) (by decide) (t := (.array .char)) (t' := (.array .long)) (by decide) (by decide)))
  have F_a_checked_11 := Fld.other W11 F_a_checked_10 (Or.inr (slot_ne (Or.inl (hw _ (List.mem_of_getElem? (i := 37) rfl))) (Or.inr (hw _ (List.mem_of_getElem? (i := 35) rfl))) (by decide) (t := .int) (t' := (.array .long)) (by decide) (by decide)))
  have F_a_limit_11 := Fld.other W11 F_a_limit_10 (Or.inr (slot_ne (Or.inl (hw _ (List.mem_of_getElem? (i := 39) rfl))) (Or.inr (hw _ (List.mem_of_getElem? (i := 35) rfl))) (by decide) (t := .int) (t' := (.array .long)) (by decide) (by decide)))
  have F_a_checkedSoFar_11 := Fld.other W11 F_a_checkedSoFar_10 (Or.inr (slot_ne (Or.inl (hw _ (List.mem_of_getElem? (i := 41) rfl))) (Or.inr (hw _ (List.mem_of_getElem? (i := 35) rfl))) (by decide) (t := .long) (t' := (.array .long)) (by decide) (by decide)))
  have F_a_endOfText_11 := Fld.other W11 F_a_endOfText_10 (Or.inr (slot_ne (Or.inl (hw _ (List.mem_of_getElem? (i := 43) rfl))) (Or.inr (hw _ (List.mem_of_getElem? (i := 35) rfl))) (by decide) (t := .boolean) (t' := (.array .long)) (by decide) (by decide)))
  have F_a_position_11 := Fld.other W11 F_a_position_10 (Or.inr (slot_ne (Or.inl (hw _ (List.mem_of_getElem? (i := 55) rfl))) (Or.inr (hw _ (List.mem_of_getElem? (i := 35) rfl))) (by decide) (t := .int) (t' := (.array .long)) (by decide) (by decide)))
  have K11 := K10.wr W11 (Or.inl (List.mem_of_getElem? (i := 0) rfl))
  have F_a_digestLanes_11 : Fld Z h11 a "com/example/virta/virta/Input" "digestLanes" "[J" .null := Fld.same W11 F_a_digestLanes_10
  have N11 := Fr.snoc X11 N10 ga_a
  have sz_11 := Nat.le_trans sz_10 (Nat.le_of_eq (Wr.size W11).symm)
  refine own_go (T' := T11) (g' := (mkF m 54 #[.val (.ref a), .val (.ref r0)] [])) st11 ?_
  refine own_go (T' := T11) (g' := (mkF m 57 #[.val (.ref a), .val (.ref r0)] [(.int n), (.ref a)])) (fun t k => ?_) ?_
  · show Steps p.tables e below (T11.setTop (mkF m 54 #[.val (.ref a), .val (.ref r0)] [])) t
    refine XS.aloadN X11.here hx rfl (hb hby d2_54) rfl rfl ?_
    show Steps p.tables e below (T11.setTop (mkF m 55 #[.val (.ref a), .val (.ref r0)] [(.ref a)])) _
    refine XS.aloadN X11.here hx rfl (hb hby d2_55) rfl rfl ?_
    show Steps p.tables e below (T11.setTop (mkF m 56 #[.val (.ref a), .val (.ref r0)] [(.ref r0), (.ref a)])) _
    refine own_len X11 hx hZ e11 V_r0_11 (g := (mkF m 56 #[.val (.ref a), .val (.ref r0)] [(.ref r0), (.ref a)])) rfl rfl (hb hby d2_56) _ ?_
    show Steps p.tables e below (T11.setTop (mkF m 57 #[.val (.ref a), .val (.ref r0)] [(.int n), (.ref a)])) _
    exact k
  obtain ⟨T12, h12, X12, e12, W12, st12⟩ := putF X11 hx hZ hown (host := "") (Or.inl (hw _ (List.mem_of_getElem? (i := 36) rfl))) Via.refl e11 F_a_checked_11 E_a_11 (Or.inl (hw _ (List.mem_of_getElem? (i := 37) rfl))) (hw _ (List.mem_of_getElem? (i := 8) rfl)) (ty := .int) (by decide) rfl rfl (g := (mkF m 57 #[.val (.ref a), .val (.ref r0)] [(.int n), (.ref a)])) rfl rfl (hb hby d2_57)
  have V_r0_12 := V_r0_11.other W12 (Nat.ne_of_lt lt_r)
  have E_a_12 := Exa.wr W12 E_a_11
  have F_a_line_12 := Fld.other W12 F_a_line_11 (Or.inr (slot_ne (Or.inl (hw _ (List.mem_of_getElem? (i := 17) rfl))) (Or.inl (hw _ (List.mem_of_getElem? (i := 37) rfl))) (by decide) (t := .int) (t' := .int) (by decide) (by decide)))
  have F_a_column_12 := Fld.other W12 F_a_column_11 (Or.inr (slot_ne (Or.inl (hw _ (List.mem_of_getElem? (i := 19) rfl))) (Or.inl (hw _ (List.mem_of_getElem? (i := 37) rfl))) (by decide) (t := .int) (t' := .int) (by decide) (by decide)))
  have F_a_buffer_12 := Fld.other W12 F_a_buffer_11 (Or.inr (slot_ne (Or.inr (hw _ (List.mem_of_getElem? (i := 25) rfl))) (Or.inl (hw _ (List.mem_of_getElem? (i := 37) rfl))) (by decide) (t := (.array .char)) (t' := .int) (by decide) (by decide)))
  have F_a_limit_12 := Fld.other W12 F_a_limit_11 (Or.inr (slot_ne (Or.inl (hw _ (List.mem_of_getElem? (i := 39) rfl))) (Or.inl (hw _ (List.mem_of_getElem? (i := 37) rfl))) (by decide) (t := .int) (t' := .int) (by decide) (by decide)))
  have F_a_checkedSoFar_12 := Fld.other W12 F_a_checkedSoFar_11 (Or.inr (slot_ne (Or.inl (hw _ (List.mem_of_getElem? (i := 41) rfl))) (Or.inl (hw _ (List.mem_of_getElem? (i := 37) rfl))) (by decide) (t := .long) (t' := .int) (by decide) (by decide)))
  have F_a_endOfText_12 := Fld.other W12 F_a_endOfText_11 (Or.inr (slot_ne (Or.inl (hw _ (List.mem_of_getElem? (i := 43) rfl))) (Or.inl (hw _ (List.mem_of_getElem? (i := 37) rfl))) (by decide) (t := .boolean) (t' := .int) (by decide) (by decide)))
  have F_a_position_12 := Fld.other W12 F_a_position_11 (Or.inr (slot_ne (Or.inl (hw _ (List.mem_of_getElem? (i := 55) rfl))) (Or.inl (hw _ (List.mem_of_getElem? (i := 37) rfl))) (by decide) (t := .int) (t' := .int) (by decide) (by decide)))
  have K12 := K11.wr W12 (Or.inl (List.mem_of_getElem? (i := 0) rfl))
  have F_a_checked_12 : Fld Z h12 a "com/example/virta/virta/Input" "checked" "I" (.int n) := Fld.same W12 F_a_checked_11
  have N12 := Fr.snoc X12 N11 ga_a
  have sz_12 := Nat.le_trans sz_11 (Nat.le_of_eq (Wr.size W12).symm)
  refine own_go (T' := T12) (g' := (mkF m 60 #[.val (.ref a), .val (.ref r0)] [])) st12 ?_
  refine own_go (T' := T12) (g' := (mkF m 63 #[.val (.ref a), .val (.ref r0)] [(.int n), (.ref a)])) (fun t k => ?_) ?_
  · show Steps p.tables e below (T12.setTop (mkF m 60 #[.val (.ref a), .val (.ref r0)] [])) t
    refine XS.aloadN X12.here hx rfl (hb hby d2_60) rfl rfl ?_
    show Steps p.tables e below (T12.setTop (mkF m 61 #[.val (.ref a), .val (.ref r0)] [(.ref a)])) _
    refine XS.aloadN X12.here hx rfl (hb hby d2_61) rfl rfl ?_
    show Steps p.tables e below (T12.setTop (mkF m 62 #[.val (.ref a), .val (.ref r0)] [(.ref r0), (.ref a)])) _
    refine own_len X12 hx hZ e12 V_r0_12 (g := (mkF m 62 #[.val (.ref a), .val (.ref r0)] [(.ref r0), (.ref a)])) rfl rfl (hb hby d2_62) _ ?_
    show Steps p.tables e below (T12.setTop (mkF m 63 #[.val (.ref a), .val (.ref r0)] [(.int n), (.ref a)])) _
    exact k
  obtain ⟨T13, h13, X13, e13, W13, st13⟩ := putF X12 hx hZ hown (host := "") (Or.inl (hw _ (List.mem_of_getElem? (i := 38) rfl))) Via.refl e12 F_a_limit_12 E_a_12 (Or.inl (hw _ (List.mem_of_getElem? (i := 39) rfl))) (hw _ (List.mem_of_getElem? (i := 8) rfl)) (ty := .int) (by decide) rfl rfl (g := (mkF m 63 #[.val (.ref a), .val (.ref r0)] [(.int n), (.ref a)])) rfl rfl (hb hby d2_63)
  have V_r0_13 := V_r0_12.other W13 (Nat.ne_of_lt lt_r)
  have E_a_13 := Exa.wr W13 E_a_12
  have F_a_line_13 := Fld.other W13 F_a_line_12 (Or.inr (slot_ne (Or.inl (hw _ (List.mem_of_getElem? (i := 17) rfl))) (Or.inl (hw _ (List.mem_of_getElem? (i := 39) rfl))) (by decide) (t := .int) (t' := .int) (by decide) (by decide)))
  have F_a_column_13 := Fld.other W13 F_a_column_12 (Or.inr (slot_ne (Or.inl (hw _ (List.mem_of_getElem? (i := 19) rfl))) (Or.inl (hw _ (List.mem_of_getElem? (i := 39) rfl))) (by decide) (t := .int) (t' := .int) (by decide) (by decide)))
  have F_a_buffer_13 := Fld.other W13 F_a_buffer_12 (Or.inr (slot_ne (Or.inr (hw _ (List.mem_of_getElem? (i := 25) rfl))) (Or.inl (hw _ (List.mem_of_getElem? (i := 39) rfl))) (by decide) (t := (.array .char)) (t' := .int) (by decide) (by decide)))
  have F_a_checked_13 := Fld.other W13 F_a_checked_12 (Or.inr (slot_ne (Or.inl (hw _ (List.mem_of_getElem? (i := 37) rfl))) (Or.inl (hw _ (List.mem_of_getElem? (i := 39) rfl))) (by decide) (t := .int) (t' := .int) (by decide) (by decide)))
  have F_a_checkedSoFar_13 := Fld.other W13 F_a_checkedSoFar_12 (Or.inr (slot_ne (Or.inl (hw _ (List.mem_of_getElem? (i := 41) rfl))) (Or.inl (hw _ (List.mem_of_getElem? (i := 39) rfl))) (by decide) (t := .long) (t' := .int) (by decide) (by decide)))
  have F_a_endOfText_13 := Fld.other W13 F_a_endOfText_12 (Or.inr (slot_ne (Or.inl (hw _ (List.mem_of_getElem? (i := 43) rfl))) (Or.inl (hw _ (List.mem_of_getElem? (i := 39) rfl))) (by decide) (t := .boolean) (t' := .int) (by decide) (by decide)))
  have F_a_position_13 := Fld.other W13 F_a_position_12 (Or.inr (slot_ne (Or.inl (hw _ (List.mem_of_getElem? (i := 55) rfl))) (Or.inl (hw _ (List.mem_of_getElem? (i := 39) rfl))) (by decide) (t := .int) (t' := .int) (by decide) (by decide)))
  have K13 := K12.wr W13 (Or.inl (List.mem_of_getElem? (i := 0) rfl))
  have F_a_limit_13 : Fld Z h13 a "com/example/virta/virta/Input" "limit" "I" (.int n) := Fld.same W13 F_a_limit_12
  have N13 := Fr.snoc X13 N12 ga_a
  have sz_13 := Nat.le_trans sz_12 (Nat.le_of_eq (Wr.size W13).symm)
  refine own_go (T' := T13) (g' := (mkF m 66 #[.val (.ref a), .val (.ref r0)] [])) st13 ?_
  refine own_go (T' := T13) (g' := (mkF m 70 #[.val (.ref a), .val (.ref r0)] [(.long (n.toInt64)), (.ref a)])) (fun t k => ?_) ?_
  · show Steps p.tables e below (T13.setTop (mkF m 66 #[.val (.ref a), .val (.ref r0)] [])) t
    refine XS.aloadN X13.here hx rfl (hb hby d2_66) rfl rfl ?_
    show Steps p.tables e below (T13.setTop (mkF m 67 #[.val (.ref a), .val (.ref r0)] [(.ref a)])) _
    refine XS.aloadN X13.here hx rfl (hb hby d2_67) rfl rfl ?_
    show Steps p.tables e below (T13.setTop (mkF m 68 #[.val (.ref a), .val (.ref r0)] [(.ref r0), (.ref a)])) _
    refine own_len X13 hx hZ e13 V_r0_13 (g := (mkF m 68 #[.val (.ref a), .val (.ref r0)] [(.ref r0), (.ref a)])) rfl rfl (hb hby d2_68) _ ?_
    show Steps p.tables e below (T13.setTop (mkF m 69 #[.val (.ref a), .val (.ref r0)] [(.int n), (.ref a)])) _
    refine XS.i2l X13.here hx rfl (hb hby d2_69) rfl ?_
    show Steps p.tables e below (T13.setTop (mkF m 70 #[.val (.ref a), .val (.ref r0)] [(.long (n.toInt64)), (.ref a)])) _
    exact k
  obtain ⟨T14, h14, X14, e14, W14, st14⟩ := putF X13 hx hZ hown (host := "") (Or.inl (hw _ (List.mem_of_getElem? (i := 40) rfl))) Via.refl e13 F_a_checkedSoFar_13 E_a_13 (Or.inl (hw _ (List.mem_of_getElem? (i := 41) rfl))) (hw _ (List.mem_of_getElem? (i := 8) rfl)) (ty := .long) (by decide) rfl rfl (g := (mkF m 70 #[.val (.ref a), .val (.ref r0)] [(.long (n.toInt64)), (.ref a)])) rfl rfl (hb hby d2_70)
  have V_r0_14 := V_r0_13.other W14 (Nat.ne_of_lt lt_r)
  have E_a_14 := Exa.wr W14 E_a_13
  have F_a_line_14 := Fld.other W14 F_a_line_13 (Or.inr (slot_ne (Or.inl (hw _ (List.mem_of_getElem? (i := 17) rfl))) (Or.inl (hw _ (List.mem_of_getElem? (i := 41) rfl))) (by decide) (t := .int) (t' := .long) (by decide) (by decide)))
  have F_a_column_14 := Fld.other W14 F_a_column_13 (Or.inr (slot_ne (Or.inl (hw _ (List.mem_of_getElem? (i := 19) rfl))) (Or.inl (hw _ (List.mem_of_getElem? (i := 41) rfl))) (by decide) (t := .int) (t' := .long) (by decide) (by decide)))
  have F_a_buffer_14 := Fld.other W14 F_a_buffer_13 (Or.inr (slot_ne (Or.inr (hw _ (List.mem_of_getElem? (i := 25) rfl))) (Or.inl (hw _ (List.mem_of_getElem? (i := 41) rfl))) (by decide) (t := (.array .char)) (t' := .long) (by decide) (by decide)))
  have F_a_checked_14 := Fld.other W14 F_a_checked_13 (Or.inr (slot_ne (Or.inl (hw _ (List.mem_of_getElem? (i := 37) rfl))) (Or.inl (hw _ (List.mem_of_getElem? (i := 41) rfl))) (by decide) (t := .int) (t' := .long) (by decide) (by decide)))
  have F_a_endOfText_14 := Fld.other W14 F_a_endOfText_13 (Or.inr (slot_ne (Or.inl (hw _ (List.mem_of_getElem? (i := 43) rfl))) (Or.inl (hw _ (List.mem_of_getElem? (i := 41) rfl))) (by decide) (t := .boolean) (t' := .long) (by decide) (by decide)))
  have F_a_position_14 := Fld.other W14 F_a_position_13 (Or.inr (slot_ne (Or.inl (hw _ (List.mem_of_getElem? (i := 55) rfl))) (Or.inl (hw _ (List.mem_of_getElem? (i := 41) rfl))) (by decide) (t := .int) (t' := .long) (by decide) (by decide)))
  have K14 := K13.wr W14 (Or.inl (List.mem_of_getElem? (i := 0) rfl))
  have F_a_checkedSoFar_14 : Fld Z h14 a "com/example/virta/virta/Input" "checkedSoFar" "J" (.long (n.toInt64)) := Fld.same W14 F_a_checkedSoFar_13
  have N14 := Fr.snoc X14 N13 ga_a
  have sz_14 := Nat.le_trans sz_13 (Nat.le_of_eq (Wr.size W14).symm)
  refine own_go (T' := T14) (g' := (mkF m 73 #[.val (.ref a), .val (.ref r0)] [])) st14 ?_
  refine own_go (T' := T14) (g' := (mkF m 75 #[.val (.ref a), .val (.ref r0)] [(.int (1 : Int32)), (.ref a)])) (fun t k => ?_) ?_
  · show Steps p.tables e below (T14.setTop (mkF m 73 #[.val (.ref a), .val (.ref r0)] [])) t
    refine XS.aloadN X14.here hx rfl (hb hby d2_73) rfl rfl ?_
    show Steps p.tables e below (T14.setTop (mkF m 74 #[.val (.ref a), .val (.ref r0)] [(.ref a)])) _
    refine XS.iconst X14.here hx rfl (hb hby d2_74) ?_
    show Steps p.tables e below (T14.setTop (mkF m 75 #[.val (.ref a), .val (.ref r0)] [(.int (1 : Int32)), (.ref a)])) _
    exact k
  obtain ⟨T15, h15, X15, e15, W15, st15⟩ := putFN X14 hx hZ hown (hw _ (List.mem_of_getElem? (i := 42) rfl)) Via.refl e14 F_a_endOfText_14 E_a_14 (Or.inl (hw _ (List.mem_of_getElem? (i := 43) rfl))) (hw _ (List.mem_of_getElem? (i := 8) rfl)) (ty := .boolean) (v' := .int (nar .boolean (1 : Int32))) (by decide) rfl (fits_nar_bool _) (g := (mkF m 75 #[.val (.ref a), .val (.ref r0)] [(.int (1 : Int32)), (.ref a)])) rfl rfl (hb hby d2_75)
  have V_r0_15 := V_r0_14.other W15 (Nat.ne_of_lt lt_r)
  have E_a_15 := Exa.wr W15 E_a_14
  have F_a_line_15 := Fld.other W15 F_a_line_14 (Or.inr (slot_ne (Or.inl (hw _ (List.mem_of_getElem? (i := 17) rfl))) (Or.inl (hw _ (List.mem_of_getElem? (i := 43) rfl))) (by decide) (t := .int) (t' := .boolean) (by decide) (by decide)))
  have F_a_column_15 := Fld.other W15 F_a_column_14 (Or.inr (slot_ne (Or.inl (hw _ (List.mem_of_getElem? (i := 19) rfl))) (Or.inl (hw _ (List.mem_of_getElem? (i := 43) rfl))) (by decide) (t := .int) (t' := .boolean) (by decide) (by decide)))
  have F_a_buffer_15 := Fld.other W15 F_a_buffer_14 (Or.inr (slot_ne (Or.inr (hw _ (List.mem_of_getElem? (i := 25) rfl))) (Or.inl (hw _ (List.mem_of_getElem? (i := 43) rfl))) (by decide) (t := (.array .char)) (t' := .boolean) (by decide) (by decide)))
  have F_a_checked_15 := Fld.other W15 F_a_checked_14 (Or.inr (slot_ne (Or.inl (hw _ (List.mem_of_getElem? (i := 37) rfl))) (Or.inl (hw _ (List.mem_of_getElem? (i := 43) rfl))) (by decide) (t := .int) (t' := .boolean) (by decide) (by decide)))
  have F_a_position_15 := Fld.other W15 F_a_position_14 (Or.inr (slot_ne (Or.inl (hw _ (List.mem_of_getElem? (i := 55) rfl))) (Or.inl (hw _ (List.mem_of_getElem? (i := 43) rfl))) (by decide) (t := .int) (t' := .boolean) (by decide) (by decide)))
  have K15 := K14.wr W15 (Or.inl (List.mem_of_getElem? (i := 0) rfl))
  have F_a_endOfText_15 : Fld Z h15 a "com/example/virta/virta/Input" "endOfText" "Z" (.int (1 : Int32)) := Fld.same W15 F_a_endOfText_14
  have N15 := Fr.snoc X15 N14 ga_a
  have sz_15 := Nat.le_trans sz_14 (Nat.le_of_eq (Wr.size W15).symm)
  refine own_go (T' := T15) (g' := (mkF m 78 #[.val (.ref a), .val (.ref r0)] [])) st15 ?_
  exact own_retV X15 hx hlk hret (hb hby d2_78) (by decide) (by decide) N15 (by rw [e15]; exact ⟨rfl, K15, ⟨E_a_15, F_a_position_15, F_a_column_15, F_a_line_15, F_a_buffer_15, F_a_checked_15⟩⟩)
abbrev own_r5 : Room := { frames := 0, cells := 0, slots := 0, locals := 0 }
theorem d5_0 : decode prog_42_method_20_code 0 = .ok (.aload_n 0, 1) := by decide +kernel
theorem d5_1 : decode prog_42_method_20_code 1 = .ok (.dup, 1) := by decide +kernel
theorem d5_2 : decode prog_42_method_20_code 2 = .ok (.getfield 78, 3) := by decide +kernel
theorem d5_5 : decode prog_42_method_20_code 5 = .ok (.iload_n 1, 1) := by decide +kernel
theorem d5_6 : decode prog_42_method_20_code 6 = .ok (.iadd, 1) := by decide +kernel
theorem d5_7 : decode prog_42_method_20_code 7 = .ok (.putfield 78, 3) := by decide +kernel
theorem d5_10 : decode prog_42_method_20_code 10 = .ok (.aload_n 0, 1) := by decide +kernel
theorem d5_11 : decode prog_42_method_20_code 11 = .ok (.dup, 1) := by decide +kernel
theorem d5_12 : decode prog_42_method_20_code 12 = .ok (.getfield 13, 3) := by decide +kernel
theorem d5_15 : decode prog_42_method_20_code 15 = .ok (.iload_n 2, 1) := by decide +kernel
theorem d5_16 : decode prog_42_method_20_code 16 = .ok (.iadd, 1) := by decide +kernel
theorem d5_17 : decode prog_42_method_20_code 17 = .ok (.putfield 13, 3) := by decide +kernel
theorem d5_20 : decode prog_42_method_20_code 20 = .ok (.return_, 1) := by decide +kernel
theorem ef_5 (m : MethodId) (a : Addr) (p0 : Int32) (p1 : Int32) : entryFrame m #[(.ref a), (.int p0), (.int p1)] 3 = mkF m 0 #[.val (.ref a), .val (.int p0), .val (.int p1)] [] := by first | (simp [entryFrame, mkF, argsToLocals, Value.category]; done) | rfl
set_option maxRecDepth 65536 in
set_option maxHeartbeats 40000000 in
theorem rm5 (l : Launch) (Z : State) (a0 : Array Value) (hw : ∀ d ∈ tables_1, d.before a0 Z = true) (a : Addr) (p0 p1 : Int32) (ps cl ln : Int32) (rb : Addr) (ck : Int32) (h0 : Heap) (n0 : Nat) (Z0 : n0 ≤ h0.size) (ga_a : n0 ≤ a) (I0 : own_In Z h0 a ps cl ln rb ck) : own_Con [] l Z (⟨"com/example/virta/virta/Input", "skip", "(II)V"⟩ : MethodName) prog_42_method_20_code 3 none own_r5 n0 #[(.ref a), (.int p0), (.int p1)] h0 (own_Qv Z a (ps + p0) (cl + p1) ln rb ck h0) := by
  refine own_body (plainFor_of_name (by first | (simp [plainName, overriddenIn]; done) | decide +kernel)) (fun m => mkF m 0 #[.val (.ref a), .val (.int p0), .val (.int p1)] []) (fun m => ef_5 m a p0 p1) ?_
  intro p e s m below meth c s₁ hx hby hml hown hnm hZ hret hlk X0 e0 N0
  have K0 := Keep.refl h0 [a]
  obtain ⟨I0e, I0p, I0c, I0l, I0b, I0h⟩ := I0
  refine own_go (T' := s₁) (g' := (mkF m 2 #[.val (.ref a), .val (.int p0), .val (.int p1)] [(.ref a), (.ref a)])) (fun t k => ?_) ?_
  · show Steps p.tables e below (s₁.setTop (mkF m 0 #[.val (.ref a), .val (.int p0), .val (.int p1)] [])) t
    refine XS.aloadN X0.here hx rfl (hb hby d5_0) rfl rfl ?_
    show Steps p.tables e below (s₁.setTop (mkF m 1 #[.val (.ref a), .val (.int p0), .val (.int p1)] [(.ref a)])) _
    refine XS.dup X0.here hx rfl (hb hby d5_1) rfl rfl ?_
    show Steps p.tables e below (s₁.setTop (mkF m 2 #[.val (.ref a), .val (.int p0), .val (.int p1)] [(.ref a), (.ref a)])) _
    exact k
  obtain ⟨T1, X1, e1, st1⟩ := getF X0 hx hZ hown (host := "") (Or.inl (hw _ (List.mem_of_getElem? (i := 54) rfl))) Via.refl e0 I0p (g := (mkF m 2 #[.val (.ref a), .val (.int p0), .val (.int p1)] [(.ref a), (.ref a)])) rfl rfl (hb hby d5_2)
  refine own_go (T' := T1) (g' := (mkF m 5 #[.val (.ref a), .val (.int p0), .val (.int p1)] [(.int ps), (.ref a)])) st1 ?_
  refine own_go (T' := T1) (g' := (mkF m 7 #[.val (.ref a), .val (.int p0), .val (.int p1)] [(.int (ps + p0)), (.ref a)])) (fun t k => ?_) ?_
  · show Steps p.tables e below (T1.setTop (mkF m 5 #[.val (.ref a), .val (.int p0), .val (.int p1)] [(.int ps), (.ref a)])) t
    refine XS.iloadN X1.here hx rfl (hb hby d5_5) rfl ?_
    show Steps p.tables e below (T1.setTop (mkF m 6 #[.val (.ref a), .val (.int p0), .val (.int p1)] [(.int p0), (.int ps), (.ref a)])) _
    refine XS.iadd X1.here hx rfl (hb hby d5_6) rfl ?_
    show Steps p.tables e below (T1.setTop (mkF m 7 #[.val (.ref a), .val (.int p0), .val (.int p1)] [(.int (ps + p0)), (.ref a)])) _
    exact k
  obtain ⟨T2, h2, X2, e2, W2, st2⟩ := putF X1 hx hZ hown (host := "") (Or.inl (hw _ (List.mem_of_getElem? (i := 54) rfl))) Via.refl e1 I0p I0e (Or.inl (hw _ (List.mem_of_getElem? (i := 55) rfl))) (hw _ (List.mem_of_getElem? (i := 8) rfl)) (ty := .int) (by decide) rfl rfl (g := (mkF m 7 #[.val (.ref a), .val (.int p0), .val (.int p1)] [(.int (ps + p0)), (.ref a)])) rfl rfl (hb hby d5_7)
  have E_a_2 := Exa.wr W2 I0e
  have F_a_column_2 := Fld.other W2 I0c (Or.inr (slot_ne (Or.inl (hw _ (List.mem_of_getElem? (i := 19) rfl))) (Or.inl (hw _ (List.mem_of_getElem? (i := 55) rfl))) (by decide) (t := .int) (t' := .int) (by decide) (by decide)))
  have F_a_line_2 := Fld.other W2 I0l (Or.inr (slot_ne (Or.inl (hw _ (List.mem_of_getElem? (i := 17) rfl))) (Or.inl (hw _ (List.mem_of_getElem? (i := 55) rfl))) (by decide) (t := .int) (t' := .int) (by decide) (by decide)))
  have F_a_buffer_2 := Fld.other W2 I0b (Or.inr (slot_ne (Or.inr (hw _ (List.mem_of_getElem? (i := 25) rfl))) (Or.inl (hw _ (List.mem_of_getElem? (i := 55) rfl))) (by decide) (t := (.array .char)) (t' := .int) (by decide) (by decide)))
  have F_a_checked_2 := Fld.other W2 I0h (Or.inr (slot_ne (Or.inl (hw _ (List.mem_of_getElem? (i := 37) rfl))) (Or.inl (hw _ (List.mem_of_getElem? (i := 55) rfl))) (by decide) (t := .int) (t' := .int) (by decide) (by decide)))
  have K2 := K0.wr W2 (Or.inl (List.mem_of_getElem? (i := 0) rfl))
  have F_a_position_2 : Fld Z h2 a "com/example/virta/virta/Input" "position" "I" (.int (ps + p0)) := Fld.same W2 I0p
  have N2 := Fr.snoc X2 N0 ga_a
  have sz_2 := Nat.le_trans Z0 (Nat.le_of_eq (Wr.size W2).symm)
  refine own_go (T' := T2) (g' := (mkF m 10 #[.val (.ref a), .val (.int p0), .val (.int p1)] [])) st2 ?_
  refine own_go (T' := T2) (g' := (mkF m 12 #[.val (.ref a), .val (.int p0), .val (.int p1)] [(.ref a), (.ref a)])) (fun t k => ?_) ?_
  · show Steps p.tables e below (T2.setTop (mkF m 10 #[.val (.ref a), .val (.int p0), .val (.int p1)] [])) t
    refine XS.aloadN X2.here hx rfl (hb hby d5_10) rfl rfl ?_
    show Steps p.tables e below (T2.setTop (mkF m 11 #[.val (.ref a), .val (.int p0), .val (.int p1)] [(.ref a)])) _
    refine XS.dup X2.here hx rfl (hb hby d5_11) rfl rfl ?_
    show Steps p.tables e below (T2.setTop (mkF m 12 #[.val (.ref a), .val (.int p0), .val (.int p1)] [(.ref a), (.ref a)])) _
    exact k
  obtain ⟨T3, X3, e3, st3⟩ := getF X2 hx hZ hown (host := "") (Or.inl (hw _ (List.mem_of_getElem? (i := 18) rfl))) Via.refl e2 F_a_column_2 (g := (mkF m 12 #[.val (.ref a), .val (.int p0), .val (.int p1)] [(.ref a), (.ref a)])) rfl rfl (hb hby d5_12)
  refine own_go (T' := T3) (g' := (mkF m 15 #[.val (.ref a), .val (.int p0), .val (.int p1)] [(.int cl), (.ref a)])) st3 ?_
  refine own_go (T' := T3) (g' := (mkF m 17 #[.val (.ref a), .val (.int p0), .val (.int p1)] [(.int (cl + p1)), (.ref a)])) (fun t k => ?_) ?_
  · show Steps p.tables e below (T3.setTop (mkF m 15 #[.val (.ref a), .val (.int p0), .val (.int p1)] [(.int cl), (.ref a)])) t
    refine XS.iloadN X3.here hx rfl (hb hby d5_15) rfl ?_
    show Steps p.tables e below (T3.setTop (mkF m 16 #[.val (.ref a), .val (.int p0), .val (.int p1)] [(.int p1), (.int cl), (.ref a)])) _
    refine XS.iadd X3.here hx rfl (hb hby d5_16) rfl ?_
    show Steps p.tables e below (T3.setTop (mkF m 17 #[.val (.ref a), .val (.int p0), .val (.int p1)] [(.int (cl + p1)), (.ref a)])) _
    exact k
  obtain ⟨T4, h4, X4, e4, W4, st4⟩ := putF X3 hx hZ hown (host := "") (Or.inl (hw _ (List.mem_of_getElem? (i := 18) rfl))) Via.refl e3 F_a_column_2 E_a_2 (Or.inl (hw _ (List.mem_of_getElem? (i := 19) rfl))) (hw _ (List.mem_of_getElem? (i := 8) rfl)) (ty := .int) (by decide) rfl rfl (g := (mkF m 17 #[.val (.ref a), .val (.int p0), .val (.int p1)] [(.int (cl + p1)), (.ref a)])) rfl rfl (hb hby d5_17)
  have E_a_4 := Exa.wr W4 E_a_2
  have F_a_position_4 := Fld.other W4 F_a_position_2 (Or.inr (slot_ne (Or.inl (hw _ (List.mem_of_getElem? (i := 55) rfl))) (Or.inl (hw _ (List.mem_of_getElem? (i := 19) rfl))) (by decide) (t := .int) (t' := .int) (by decide) (by decide)))
  have F_a_line_4 := Fld.other W4 F_a_line_2 (Or.inr (slot_ne (Or.inl (hw _ (List.mem_of_getElem? (i := 17) rfl))) (Or.inl (hw _ (List.mem_of_getElem? (i := 19) rfl))) (by decide) (t := .int) (t' := .int) (by decide) (by decide)))
  have F_a_buffer_4 := Fld.other W4 F_a_buffer_2 (Or.inr (slot_ne (Or.inr (hw _ (List.mem_of_getElem? (i := 25) rfl))) (Or.inl (hw _ (List.mem_of_getElem? (i := 19) rfl))) (by decide) (t := (.array .char)) (t' := .int) (by decide) (by decide)))
  have F_a_checked_4 := Fld.other W4 F_a_checked_2 (Or.inr (slot_ne (Or.inl (hw _ (List.mem_of_getElem? (i := 37) rfl))) (Or.inl (hw _ (List.mem_of_getElem? (i := 19) rfl))) (by decide) (t := .int) (t' := .int) (by decide) (by decide)))
  have K4 := K2.wr W4 (Or.inl (List.mem_of_getElem? (i := 0) rfl))
  have F_a_column_4 : Fld Z h4 a "com/example/virta/virta/Input" "column" "I" (.int (cl + p1)) := Fld.same W4 F_a_column_2
  have N4 := Fr.snoc X4 N2 ga_a
  have sz_4 := Nat.le_trans sz_2 (Nat.le_of_eq (Wr.size W4).symm)
  refine own_go (T' := T4) (g' := (mkF m 20 #[.val (.ref a), .val (.int p0), .val (.int p1)] [])) st4 ?_
  exact own_retV X4 hx hlk hret (hb hby d5_20) (by decide) (by decide) N4 (by rw [e4]; exact ⟨rfl, K4, ⟨E_a_4, F_a_position_4, F_a_column_4, F_a_line_4, F_a_buffer_4, F_a_checked_4⟩⟩)
abbrev own_r4 : Room := { frames := 1, cells := 0, slots := 0, locals := 14 }
theorem d4_0 : decode prog_42_method_19_code 0 = .ok (.aload_n 0, 1) := by decide +kernel
theorem d4_1 : decode prog_42_method_19_code 1 = .ok (.iload_n 1, 1) := by decide +kernel
theorem d4_2 : decode prog_42_method_19_code 2 = .ok (.iload_n 1, 1) := by decide +kernel
theorem d4_3 : decode prog_42_method_19_code 3 = .ok (.invokevirtual 147, 3) := by decide +kernel
theorem pd_0 : parseMethodDescriptor "(II)V" = some ⟨[.int, .int], none⟩ := by decide +kernel
theorem d4_6 : decode prog_42_method_19_code 6 = .ok (.return_, 1) := by decide +kernel
theorem ef_4 (m : MethodId) (a : Addr) (p0 : Int32) : entryFrame m #[(.ref a), (.int p0)] 2 = mkF m 0 #[.val (.ref a), .val (.int p0)] [] := by first | (simp [entryFrame, mkF, argsToLocals, Value.category]; done) | rfl
set_option maxRecDepth 65536 in
set_option maxHeartbeats 40000000 in
theorem rm4 (l : Launch) (Z : State) (a0 : Array Value) (hw : ∀ d ∈ tables_1, d.before a0 Z = true) (a : Addr) (p0 : Int32) (ps cl ln : Int32) (rb : Addr) (ck : Int32) (h0 : Heap) (n0 : Nat) (Z0 : n0 ≤ h0.size) (ga_a : n0 ≤ a) (I0 : own_In Z h0 a ps cl ln rb ck) : own_Con [] l Z (⟨"com/example/virta/virta/Input", "skip", "(I)V"⟩ : MethodName) prog_42_method_19_code 2 none own_r4 n0 #[(.ref a), (.int p0)] h0 (own_Qv Z a (ps + p0) (cl + p0) ln rb ck h0) := by
  refine own_body (plainFor_of_name (by first | (simp [plainName, overriddenIn]; done) | decide +kernel)) (fun m => mkF m 0 #[.val (.ref a), .val (.int p0)] []) (fun m => ef_4 m a p0) ?_
  intro p e s m below meth c s₁ hx hby hml hown hnm hZ hret hlk X0 e0 N0
  have E0 := I0.1
  refine own_go (T' := s₁) (g' := (mkF m 3 #[.val (.ref a), .val (.int p0)] [(.int p0), (.int p0), (.ref a)])) (fun t k => ?_) ?_
  · show Steps p.tables e below (s₁.setTop (mkF m 0 #[.val (.ref a), .val (.int p0)] [])) t
    refine XS.aloadN X0.here hx rfl (hb hby d4_0) rfl rfl ?_
    show Steps p.tables e below (s₁.setTop (mkF m 1 #[.val (.ref a), .val (.int p0)] [(.ref a)])) _
    refine XS.iloadN X0.here hx rfl (hb hby d4_1) rfl ?_
    show Steps p.tables e below (s₁.setTop (mkF m 2 #[.val (.ref a), .val (.int p0)] [(.int p0), (.ref a)])) _
    refine XS.iloadN X0.here hx rfl (hb hby d4_2) rfl ?_
    show Steps p.tables e below (s₁.setTop (mkF m 3 #[.val (.ref a), .val (.int p0)] [(.int p0), (.int p0), (.ref a)])) _
    exact k
  obtain ⟨_, T1, L1, X1, N1, ⟨rfl, hQ1⟩, st1⟩ := own_callV X0 hx hZ hown (hw _ (List.mem_of_getElem? (i := 49) rfl)) (hw _ (List.mem_of_getElem? (i := 50) rfl)) (hw _ (List.mem_of_getElem? (i := 52) rfl)) (hw _ (List.mem_of_getElem? (i := 51) rfl)) (hw _ (List.mem_of_getElem? (i := 9) rfl)) (hw _ (List.mem_of_getElem? (i := 53) rfl)) (by decide) (a := a) (argsL := [(.int p0), (.int p0)]) (rest := []) (rm5 l Z a0 hw a p0 p0 ps cl ln rb ck h0 n0 Z0 ga_a I0) (W := 0) (by decide) (by decide) E0 (g := (mkF m 3 #[.val (.ref a), .val (.int p0)] [(.int p0), (.int p0), (.ref a)])) rfl (by rw [hml]; rfl) pd_0 rfl rfl (by show 2 * 0 + _ ≤ _; exact Nat.le_of_eq rfl) (hb hby d4_3) e0 (by decide) (by decide) N0
  refine own_go (T' := T1) (g' := (mkF m 6 #[.val (.ref a), .val (.int p0)] [])) st1 ?_
  exact own_retV X1 hx hlk hret (hb hby d4_6) (by decide) (by decide) N1 ⟨rfl, hQ1⟩
abbrev own_r7 : Room := { frames := 0, cells := 0, slots := 0, locals := 0 }
theorem d7_0 : decode prog_42_method_28_code 0 = .ok (.aload_n 0, 1) := by decide +kernel
theorem d7_1 : decode prog_42_method_28_code 1 = .ok (.getfield 78, 3) := by decide +kernel
theorem d7_4 : decode prog_42_method_28_code 4 = .ok (.ireturn, 1) := by decide +kernel
theorem ef_7 (m : MethodId) (a : Addr) : entryFrame m #[(.ref a)] 1 = mkF m 0 #[.val (.ref a)] [] := by first | (simp [entryFrame, mkF, argsToLocals, Value.category]; done) | rfl
set_option maxRecDepth 65536 in
set_option maxHeartbeats 40000000 in
theorem rm7 (l : Launch) (Z : State) (a0 : Array Value) (hw : ∀ d ∈ tables_1, d.before a0 Z = true) (a : Addr) (ps cl ln : Int32) (rb : Addr) (ck : Int32) (h0 : Heap) (n0 : Nat) (I0 : own_In Z h0 a ps cl ln rb ck) : own_Con [] l Z (⟨"com/example/virta/virta/Input", "position", "()I"⟩ : MethodName) prog_42_method_28_code 1 (some .int) own_r7 n0 #[(.ref a)] h0 (own_P (.int ps) h0) := by
  refine own_body (plainFor_of_name (by first | (simp [plainName, overriddenIn]; done) | decide +kernel)) (fun m => mkF m 0 #[.val (.ref a)] []) (fun m => ef_7 m a) ?_
  intro p e s m below meth c s₁ hx hby hml hown hnm hZ hret hlk X0 e0 N0
  obtain ⟨I0e, I0p, I0c, I0l, I0b, I0h⟩ := I0
  refine own_go (T' := s₁) (g' := (mkF m 1 #[.val (.ref a)] [(.ref a)])) (fun t k => ?_) ?_
  · show Steps p.tables e below (s₁.setTop (mkF m 0 #[.val (.ref a)] [])) t
    refine XS.aloadN X0.here hx rfl (hb hby d7_0) rfl rfl ?_
    show Steps p.tables e below (s₁.setTop (mkF m 1 #[.val (.ref a)] [(.ref a)])) _
    exact k
  obtain ⟨T1, X1, e1, st1⟩ := getF X0 hx hZ hown (host := "") (Or.inl (hw _ (List.mem_of_getElem? (i := 54) rfl))) Via.refl e0 I0p (g := (mkF m 1 #[.val (.ref a)] [(.ref a)])) rfl rfl (hb hby d7_1)
  refine own_go (T' := T1) (g' := (mkF m 4 #[.val (.ref a)] [(.int ps)])) st1 ?_
  exact own_retI X1 hx hlk hret (hb hby d7_4) (by decide) (by decide) N0 ⟨rfl, e1⟩
abbrev own_r8 : Room := { frames := 0, cells := 0, slots := 0, locals := 0 }
theorem d8_0 : decode prog_42_method_12_code 0 = .ok (.aload_n 0, 1) := by decide +kernel
theorem d8_1 : decode prog_42_method_12_code 1 = .ok (.getfield 7, 3) := by decide +kernel
theorem d8_4 : decode prog_42_method_12_code 4 = .ok (.ireturn, 1) := by decide +kernel
theorem ef_8 (m : MethodId) (a : Addr) : entryFrame m #[(.ref a)] 1 = mkF m 0 #[.val (.ref a)] [] := by first | (simp [entryFrame, mkF, argsToLocals, Value.category]; done) | rfl
set_option maxRecDepth 65536 in
set_option maxHeartbeats 40000000 in
theorem rm8 (l : Launch) (Z : State) (a0 : Array Value) (hw : ∀ d ∈ tables_1, d.before a0 Z = true) (a : Addr) (ps cl ln : Int32) (rb : Addr) (ck : Int32) (h0 : Heap) (n0 : Nat) (I0 : own_In Z h0 a ps cl ln rb ck) : own_Con [] l Z (⟨"com/example/virta/virta/Input", "line", "()I"⟩ : MethodName) prog_42_method_12_code 1 (some .int) own_r8 n0 #[(.ref a)] h0 (own_P (.int ln) h0) := by
  refine own_body (plainFor_of_name (by first | (simp [plainName, overriddenIn]; done) | decide +kernel)) (fun m => mkF m 0 #[.val (.ref a)] []) (fun m => ef_8 m a) ?_
  intro p e s m below meth c s₁ hx hby hml hown hnm hZ hret hlk X0 e0 N0
  obtain ⟨I0e, I0p, I0c, I0l, I0b, I0h⟩ := I0
  refine own_go (T' := s₁) (g' := (mkF m 1 #[.val (.ref a)] [(.ref a)])) (fun t k => ?_) ?_
  · show Steps p.tables e below (s₁.setTop (mkF m 0 #[.val (.ref a)] [])) t
    refine XS.aloadN X0.here hx rfl (hb hby d8_0) rfl rfl ?_
    show Steps p.tables e below (s₁.setTop (mkF m 1 #[.val (.ref a)] [(.ref a)])) _
    exact k
  obtain ⟨T1, X1, e1, st1⟩ := getF X0 hx hZ hown (host := "") (Or.inl (hw _ (List.mem_of_getElem? (i := 16) rfl))) Via.refl e0 I0l (g := (mkF m 1 #[.val (.ref a)] [(.ref a)])) rfl rfl (hb hby d8_1)
  refine own_go (T' := T1) (g' := (mkF m 4 #[.val (.ref a)] [(.int ln)])) st1 ?_
  exact own_retI X1 hx hlk hret (hb hby d8_4) (by decide) (by decide) N0 ⟨rfl, e1⟩
abbrev own_r9 : Room := { frames := 0, cells := 0, slots := 0, locals := 0 }
theorem d9_0 : decode prog_42_method_13_code 0 = .ok (.aload_n 0, 1) := by decide +kernel
theorem d9_1 : decode prog_42_method_13_code 1 = .ok (.getfield 13, 3) := by decide +kernel
theorem d9_4 : decode prog_42_method_13_code 4 = .ok (.ireturn, 1) := by decide +kernel
theorem ef_9 (m : MethodId) (a : Addr) : entryFrame m #[(.ref a)] 1 = mkF m 0 #[.val (.ref a)] [] := by first | (simp [entryFrame, mkF, argsToLocals, Value.category]; done) | rfl
set_option maxRecDepth 65536 in
set_option maxHeartbeats 40000000 in
theorem rm9 (l : Launch) (Z : State) (a0 : Array Value) (hw : ∀ d ∈ tables_1, d.before a0 Z = true) (a : Addr) (ps cl ln : Int32) (rb : Addr) (ck : Int32) (h0 : Heap) (n0 : Nat) (I0 : own_In Z h0 a ps cl ln rb ck) : own_Con [] l Z (⟨"com/example/virta/virta/Input", "column", "()I"⟩ : MethodName) prog_42_method_13_code 1 (some .int) own_r9 n0 #[(.ref a)] h0 (own_P (.int cl) h0) := by
  refine own_body (plainFor_of_name (by first | (simp [plainName, overriddenIn]; done) | decide +kernel)) (fun m => mkF m 0 #[.val (.ref a)] []) (fun m => ef_9 m a) ?_
  intro p e s m below meth c s₁ hx hby hml hown hnm hZ hret hlk X0 e0 N0
  obtain ⟨I0e, I0p, I0c, I0l, I0b, I0h⟩ := I0
  refine own_go (T' := s₁) (g' := (mkF m 1 #[.val (.ref a)] [(.ref a)])) (fun t k => ?_) ?_
  · show Steps p.tables e below (s₁.setTop (mkF m 0 #[.val (.ref a)] [])) t
    refine XS.aloadN X0.here hx rfl (hb hby d9_0) rfl rfl ?_
    show Steps p.tables e below (s₁.setTop (mkF m 1 #[.val (.ref a)] [(.ref a)])) _
    exact k
  obtain ⟨T1, X1, e1, st1⟩ := getF X0 hx hZ hown (host := "") (Or.inl (hw _ (List.mem_of_getElem? (i := 18) rfl))) Via.refl e0 I0c (g := (mkF m 1 #[.val (.ref a)] [(.ref a)])) rfl rfl (hb hby d9_1)
  refine own_go (T' := T1) (g' := (mkF m 4 #[.val (.ref a)] [(.int cl)])) st1 ?_
  exact own_retI X1 hx hlk hret (hb hby d9_4) (by decide) (by decide) N0 ⟨rfl, e1⟩
def f1_0 (q0 : Int64) (p1 : Int32) : Int32 := (if (((((q0.toUInt64 >>> (p1 &&& 0x3f).toInt64.toUInt64).toInt64) &&& (2047 : Int64)).toInt32) &&& (7 : Int32)) = (0 : Int32) then (nar .char (10 : Int32)) else (if (((((q0.toUInt64 >>> (p1 &&& 0x3f).toInt64.toUInt64).toInt64) &&& (2047 : Int64)).toInt32) &&& (7 : Int32)) = (1 : Int32) then (nar .char (32 : Int32)) else (if (((((q0.toUInt64 >>> (p1 &&& 0x3f).toInt64.toUInt64).toInt64) &&& (2047 : Int64)).toInt32) &&& (7 : Int32)) = (2 : Int32) then (nar .char (9 : Int32)) else (if (((((q0.toUInt64 >>> (p1 &&& 0x3f).toInt64.toUInt64).toInt64) &&& (2047 : Int64)).toInt32) &&& (7 : Int32)) = (3 : Int32) then (nar .char (60 : Int32)) else (nar .char ((((((((q0.toUInt64 >>> (p1 &&& 0x3f).toInt64.toUInt64).toInt64) &&& (2047 : Int64)).toInt32).toUInt32 >>> ((3 : Int32) &&& 31).toUInt32).toInt32) &&& (255 : Int32)).toUInt32.toUInt16.toUInt32.toInt32))))))
abbrev own_r1 : Room := { frames := 0, cells := 0, slots := 0, locals := 0 }
theorem d1_0 : decode method_3_code 0 = .ok (.lload_n 0, 1) := by decide +kernel
theorem d1_1 : decode method_3_code 1 = .ok (.iload_n 2, 1) := by decide +kernel
theorem d1_2 : decode method_3_code 2 = .ok (.lushr, 1) := by decide +kernel
theorem d1_3 : decode method_3_code 3 = .ok (.ldc2_w 40, 3) := by decide +kernel
theorem d1_6 : decode method_3_code 6 = .ok (.land, 1) := by decide +kernel
theorem d1_7 : decode method_3_code 7 = .ok (.l2i, 1) := by decide +kernel
theorem d1_8 : decode method_3_code 8 = .ok (.istore_n 3, 1) := by decide +kernel
theorem d1_9 : decode method_3_code 9 = .ok (.iload_n 3, 1) := by decide +kernel
theorem d1_10 : decode method_3_code 10 = .ok (.bipush 7, 2) := by decide +kernel
theorem d1_12 : decode method_3_code 12 = .ok (.iand, 1) := by decide +kernel
theorem d1_13 : decode method_3_code 13 = .ok (.istore 4, 2) := by decide +kernel
theorem d1_15 : decode method_3_code 15 = .ok (.iload 4, 2) := by decide +kernel
theorem d1_17 : decode method_3_code 17 = .ok (.ifCond .ne 10, 3) := by decide +kernel
theorem d1_20 : decode method_3_code 20 = .ok (.bipush 10, 2) := by decide +kernel
theorem d1_22 : decode method_3_code 22 = .ok (.istore 5, 2) := by decide +kernel
theorem d1_24 : decode method_3_code 24 = .ok (.goto 52, 3) := by decide +kernel
theorem d1_76 : decode method_3_code 76 = .ok (.iload 5, 2) := by decide +kernel
theorem d1_78 : decode method_3_code 78 = .ok (.ireturn, 1) := by decide +kernel
theorem d1_27 : decode method_3_code 27 = .ok (.iload 4, 2) := by decide +kernel
theorem d1_29 : decode method_3_code 29 = .ok (.iconst 1, 1) := by decide +kernel
theorem d1_30 : decode method_3_code 30 = .ok (.if_icmp .ne 10, 3) := by decide +kernel
theorem d1_33 : decode method_3_code 33 = .ok (.bipush 32, 2) := by decide +kernel
theorem d1_35 : decode method_3_code 35 = .ok (.istore 5, 2) := by decide +kernel
theorem d1_37 : decode method_3_code 37 = .ok (.goto 39, 3) := by decide +kernel
theorem d1_40 : decode method_3_code 40 = .ok (.iload 4, 2) := by decide +kernel
theorem d1_42 : decode method_3_code 42 = .ok (.iconst 2, 1) := by decide +kernel
theorem d1_43 : decode method_3_code 43 = .ok (.if_icmp .ne 10, 3) := by decide +kernel
theorem d1_46 : decode method_3_code 46 = .ok (.bipush 9, 2) := by decide +kernel
theorem d1_48 : decode method_3_code 48 = .ok (.istore 5, 2) := by decide +kernel
theorem d1_50 : decode method_3_code 50 = .ok (.goto 26, 3) := by decide +kernel
theorem d1_53 : decode method_3_code 53 = .ok (.iload 4, 2) := by decide +kernel
theorem d1_55 : decode method_3_code 55 = .ok (.iconst 3, 1) := by decide +kernel
theorem d1_56 : decode method_3_code 56 = .ok (.if_icmp .ne 10, 3) := by decide +kernel
theorem d1_59 : decode method_3_code 59 = .ok (.bipush 60, 2) := by decide +kernel
theorem d1_61 : decode method_3_code 61 = .ok (.istore 5, 2) := by decide +kernel
theorem d1_63 : decode method_3_code 63 = .ok (.goto 13, 3) := by decide +kernel
theorem d1_66 : decode method_3_code 66 = .ok (.iload_n 3, 1) := by decide +kernel
theorem d1_67 : decode method_3_code 67 = .ok (.iconst 3, 1) := by decide +kernel
theorem d1_68 : decode method_3_code 68 = .ok (.iushr, 1) := by decide +kernel
theorem d1_69 : decode method_3_code 69 = .ok (.sipush 255, 3) := by decide +kernel
theorem d1_72 : decode method_3_code 72 = .ok (.iand, 1) := by decide +kernel
theorem d1_73 : decode method_3_code 73 = .ok (.i2c, 1) := by decide +kernel
theorem d1_74 : decode method_3_code 74 = .ok (.istore 5, 2) := by decide +kernel
theorem ef_1 (m : MethodId) (q0 : Int64) (p1 : Int32) : entryFrame m #[(.long q0), (.int p1)] 6 = mkF m 0 #[.val (.long q0), .second, .val (.int p1), .unset, .unset, .unset] [] := by first | (simp [entryFrame, mkF, argsToLocals, Value.category]; done) | rfl
set_option maxRecDepth 65536 in
set_option maxHeartbeats 40000000 in
theorem rm1 (l : Launch) (Z : State) (a0 : Array Value) (hw : ∀ d ∈ tables_1, d.before a0 Z = true) (q0 : Int64) (p1 : Int32) (h0 : Heap) (n0 : Nat) : own_Con [] l Z (⟨"com/example/virta/virta/InputSkipIndentationPinLaw", "pick", "(JI)C"⟩ : MethodName) method_3_code 6 (some .char) own_r1 n0 #[(.long q0), (.int p1)] h0 (own_P (.int (f1_0 q0 p1)) h0) := by
  refine own_body (plainFor_of_name (by first | (simp [plainName, overriddenIn]; done) | decide +kernel)) (fun m => mkF m 0 #[.val (.long q0), .second, .val (.int p1), .unset, .unset, .unset] []) (fun m => ef_1 m q0 p1) ?_
  intro p e s m below meth c s₁ hx hby hml hown hnm hZ hret hlk X0 e0 N0
  show own_Ends p e below s n0 _ _ _ _ (own_P (.int (if (((((q0.toUInt64 >>> (p1 &&& 0x3f).toInt64.toUInt64).toInt64) &&& (2047 : Int64)).toInt32) &&& (7 : Int32)) = (0 : Int32) then (nar .char (10 : Int32)) else (if (((((q0.toUInt64 >>> (p1 &&& 0x3f).toInt64.toUInt64).toInt64) &&& (2047 : Int64)).toInt32) &&& (7 : Int32)) = (1 : Int32) then (nar .char (32 : Int32)) else (if (((((q0.toUInt64 >>> (p1 &&& 0x3f).toInt64.toUInt64).toInt64) &&& (2047 : Int64)).toInt32) &&& (7 : Int32)) = (2 : Int32) then (nar .char (9 : Int32)) else (if (((((q0.toUInt64 >>> (p1 &&& 0x3f).toInt64.toUInt64).toInt64) &&& (2047 : Int64)).toInt32) &&& (7 : Int32)) = (3 : Int32) then (nar .char (60 : Int32)) else (nar .char ((((((((q0.toUInt64 >>> (p1 &&& 0x3f).toInt64.toUInt64).toInt64) &&& (2047 : Int64)).toInt32).toUInt32 >>> ((3 : Int32) &&& 31).toUInt32).toInt32) &&& (255 : Int32)).toUInt32.toUInt16.toUInt32.toInt32))))))) h0)
  refine own_go (T' := s₁) (g' := (mkF m 17 #[.val (.long q0), .second, .val (.int p1), .val (.int ((((q0.toUInt64 >>> (p1 &&& 0x3f).toInt64.toUInt64).toInt64) &&& (2047 : Int64)).toInt32)), .val (.int (((((q0.toUInt64 >>> (p1 &&& 0x3f).toInt64.toUInt64).toInt64) &&& (2047 : Int64)).toInt32) &&& (7 : Int32))), .unset] [(.int (((((q0.toUInt64 >>> (p1 &&& 0x3f).toInt64.toUInt64).toInt64) &&& (2047 : Int64)).toInt32) &&& (7 : Int32)))])) (fun t k => ?_) ?_
  · show Steps p.tables e below (s₁.setTop (mkF m 0 #[.val (.long q0), .second, .val (.int p1), .unset, .unset, .unset] [])) t
    refine XS.lloadN X0.here hx rfl (hb hby d1_0) rfl ?_
    show Steps p.tables e below (s₁.setTop (mkF m 1 #[.val (.long q0), .second, .val (.int p1), .unset, .unset, .unset] [(.long q0)])) _
    refine XS.iloadN X0.here hx rfl (hb hby d1_1) rfl ?_
    show Steps p.tables e below (s₁.setTop (mkF m 2 #[.val (.long q0), .second, .val (.int p1), .unset, .unset, .unset] [(.int p1), (.long q0)])) _
    refine XS.lushr X0.here hx rfl (hb hby d1_2) rfl ?_
    show Steps p.tables e below (s₁.setTop (mkF m 3 #[.val (.long q0), .second, .val (.int p1), .unset, .unset, .unset] [(.long ((q0.toUInt64 >>> (p1 &&& 0x3f).toInt64.toUInt64).toInt64))])) _
    refine X0.ldc2Long hx hown (mvT hZ (hw _ (List.mem_of_getElem? (i := 5) rfl))) (g := (mkF m 3 #[.val (.long q0), .second, .val (.int p1), .unset, .unset, .unset] [(.long ((q0.toUInt64 >>> (p1 &&& 0x3f).toInt64.toUInt64).toInt64))])) rfl (hb hby d1_3) _ ?_
    show Steps p.tables e below (s₁.setTop (mkF m 6 #[.val (.long q0), .second, .val (.int p1), .unset, .unset, .unset] [(.long (2047 : Int64)), (.long ((q0.toUInt64 >>> (p1 &&& 0x3f).toInt64.toUInt64).toInt64))])) _
    refine XS.land X0.here hx rfl (hb hby d1_6) rfl ?_
    show Steps p.tables e below (s₁.setTop (mkF m 7 #[.val (.long q0), .second, .val (.int p1), .unset, .unset, .unset] [(.long (((q0.toUInt64 >>> (p1 &&& 0x3f).toInt64.toUInt64).toInt64) &&& (2047 : Int64)))])) _
    refine XS.l2i X0.here hx rfl (hb hby d1_7) rfl ?_
    show Steps p.tables e below (s₁.setTop (mkF m 8 #[.val (.long q0), .second, .val (.int p1), .unset, .unset, .unset] [(.int ((((q0.toUInt64 >>> (p1 &&& 0x3f).toInt64.toUInt64).toInt64) &&& (2047 : Int64)).toInt32))])) _
    refine XS.istoreN X0.here hx rfl (hb hby d1_8) rfl (l' := #[.val (.long q0), .second, .val (.int p1), .val (.int ((((q0.toUInt64 >>> (p1 &&& 0x3f).toInt64.toUInt64).toInt64) &&& (2047 : Int64)).toInt32)), .unset, .unset]) rfl ?_
    show Steps p.tables e below (s₁.setTop (mkF m 9 #[.val (.long q0), .second, .val (.int p1), .val (.int ((((q0.toUInt64 >>> (p1 &&& 0x3f).toInt64.toUInt64).toInt64) &&& (2047 : Int64)).toInt32)), .unset, .unset] [])) _
    refine XS.iloadN X0.here hx rfl (hb hby d1_9) rfl ?_
    show Steps p.tables e below (s₁.setTop (mkF m 10 #[.val (.long q0), .second, .val (.int p1), .val (.int ((((q0.toUInt64 >>> (p1 &&& 0x3f).toInt64.toUInt64).toInt64) &&& (2047 : Int64)).toInt32)), .unset, .unset] [(.int ((((q0.toUInt64 >>> (p1 &&& 0x3f).toInt64.toUInt64).toInt64) &&& (2047 : Int64)).toInt32))])) _
    refine XS.bipush X0.here hx rfl (hb hby d1_10) ?_
    show Steps p.tables e below (s₁.setTop (mkF m 12 #[.val (.long q0), .second, .val (.int p1), .val (.int ((((q0.toUInt64 >>> (p1 &&& 0x3f).toInt64.toUInt64).toInt64) &&& (2047 : Int64)).toInt32)), .unset, .unset] [(.int (7 : Int32)), (.int ((((q0.toUInt64 >>> (p1 &&& 0x3f).toInt64.toUInt64).toInt64) &&& (2047 : Int64)).toInt32))])) _
    refine XS.iand X0.here hx rfl (hb hby d1_12) rfl ?_
    show Steps p.tables e below (s₁.setTop (mkF m 13 #[.val (.long q0), .second, .val (.int p1), .val (.int ((((q0.toUInt64 >>> (p1 &&& 0x3f).toInt64.toUInt64).toInt64) &&& (2047 : Int64)).toInt32)), .unset, .unset] [(.int (((((q0.toUInt64 >>> (p1 &&& 0x3f).toInt64.toUInt64).toInt64) &&& (2047 : Int64)).toInt32) &&& (7 : Int32)))])) _
    refine XS.istore X0.here hx rfl (hb hby d1_13) rfl (l' := #[.val (.long q0), .second, .val (.int p1), .val (.int ((((q0.toUInt64 >>> (p1 &&& 0x3f).toInt64.toUInt64).toInt64) &&& (2047 : Int64)).toInt32)), .val (.int (((((q0.toUInt64 >>> (p1 &&& 0x3f).toInt64.toUInt64).toInt64) &&& (2047 : Int64)).toInt32) &&& (7 : Int32))), .unset]) rfl ?_
    show Steps p.tables e below (s₁.setTop (mkF m 15 #[.val (.long q0), .second, .val (.int p1), .val (.int ((((q0.toUInt64 >>> (p1 &&& 0x3f).toInt64.toUInt64).toInt64) &&& (2047 : Int64)).toInt32)), .val (.int (((((q0.toUInt64 >>> (p1 &&& 0x3f).toInt64.toUInt64).toInt64) &&& (2047 : Int64)).toInt32) &&& (7 : Int32))), .unset] [])) _
    refine XS.iload X0.here hx rfl (hb hby d1_15) rfl ?_
    show Steps p.tables e below (s₁.setTop (mkF m 17 #[.val (.long q0), .second, .val (.int p1), .val (.int ((((q0.toUInt64 >>> (p1 &&& 0x3f).toInt64.toUInt64).toInt64) &&& (2047 : Int64)).toInt32)), .val (.int (((((q0.toUInt64 >>> (p1 &&& 0x3f).toInt64.toUInt64).toInt64) &&& (2047 : Int64)).toInt32) &&& (7 : Int32))), .unset] [(.int (((((q0.toUInt64 >>> (p1 &&& 0x3f).toInt64.toUInt64).toInt64) &&& (2047 : Int64)).toInt32) &&& (7 : Int32)))])) _
    exact k
  by_cases hc17_1 : (((((q0.toUInt64 >>> (p1 &&& 0x3f).toInt64.toUInt64).toInt64) &&& (2047 : Int64)).toInt32) &&& (7 : Int32)) = (0 : Int32)
  · rw [if_pos hc17_1]
    refine own_go (T' := s₁) (g' := (mkF m 20 #[.val (.long q0), .second, .val (.int p1), .val (.int ((((q0.toUInt64 >>> (p1 &&& 0x3f).toInt64.toUInt64).toInt64) &&& (2047 : Int64)).toInt32)), .val (.int (((((q0.toUInt64 >>> (p1 &&& 0x3f).toInt64.toUInt64).toInt64) &&& (2047 : Int64)).toInt32) &&& (7 : Int32))), .unset] [])) (fun t k => ?_) ?_
    · refine XS.ifNo X0.here hx rfl (hb hby d1_17) rfl ((if0 _ _).trans (teq hc17_1).2) ?_
      exact k
    refine own_go (T' := s₁) (g' := (mkF m 78 #[.val (.long q0), .second, .val (.int p1), .val (.int ((((q0.toUInt64 >>> (p1 &&& 0x3f).toInt64.toUInt64).toInt64) &&& (2047 : Int64)).toInt32)), .val (.int (((((q0.toUInt64 >>> (p1 &&& 0x3f).toInt64.toUInt64).toInt64) &&& (2047 : Int64)).toInt32) &&& (7 : Int32))), .val (.int (10 : Int32))] [(.int (10 : Int32))])) (fun t k => ?_) ?_
    · show Steps p.tables e below (s₁.setTop (mkF m 20 #[.val (.long q0), .second, .val (.int p1), .val (.int ((((q0.toUInt64 >>> (p1 &&& 0x3f).toInt64.toUInt64).toInt64) &&& (2047 : Int64)).toInt32)), .val (.int (((((q0.toUInt64 >>> (p1 &&& 0x3f).toInt64.toUInt64).toInt64) &&& (2047 : Int64)).toInt32) &&& (7 : Int32))), .unset] [])) t
      refine XS.bipush X0.here hx rfl (hb hby d1_20) ?_
      show Steps p.tables e below (s₁.setTop (mkF m 22 #[.val (.long q0), .second, .val (.int p1), .val (.int ((((q0.toUInt64 >>> (p1 &&& 0x3f).toInt64.toUInt64).toInt64) &&& (2047 : Int64)).toInt32)), .val (.int (((((q0.toUInt64 >>> (p1 &&& 0x3f).toInt64.toUInt64).toInt64) &&& (2047 : Int64)).toInt32) &&& (7 : Int32))), .unset] [(.int (10 : Int32))])) _
      refine XS.istore X0.here hx rfl (hb hby d1_22) rfl (l' := #[.val (.long q0), .second, .val (.int p1), .val (.int ((((q0.toUInt64 >>> (p1 &&& 0x3f).toInt64.toUInt64).toInt64) &&& (2047 : Int64)).toInt32)), .val (.int (((((q0.toUInt64 >>> (p1 &&& 0x3f).toInt64.toUInt64).toInt64) &&& (2047 : Int64)).toInt32) &&& (7 : Int32))), .val (.int (10 : Int32))]) rfl ?_
      show Steps p.tables e below (s₁.setTop (mkF m 24 #[.val (.long q0), .second, .val (.int p1), .val (.int ((((q0.toUInt64 >>> (p1 &&& 0x3f).toInt64.toUInt64).toInt64) &&& (2047 : Int64)).toInt32)), .val (.int (((((q0.toUInt64 >>> (p1 &&& 0x3f).toInt64.toUInt64).toInt64) &&& (2047 : Int64)).toInt32) &&& (7 : Int32))), .val (.int (10 : Int32))] [])) _
      refine XS.goto X0.here hx rfl (pc0 := 24) (pc' := 76) rfl (hb hby d1_24) (by decide) (by decide) ?_
      show Steps p.tables e below (s₁.setTop (mkF m 76 #[.val (.long q0), .second, .val (.int p1), .val (.int ((((q0.toUInt64 >>> (p1 &&& 0x3f).toInt64.toUInt64).toInt64) &&& (2047 : Int64)).toInt32)), .val (.int (((((q0.toUInt64 >>> (p1 &&& 0x3f).toInt64.toUInt64).toInt64) &&& (2047 : Int64)).toInt32) &&& (7 : Int32))), .val (.int (10 : Int32))] [])) _
      refine XS.iload X0.here hx rfl (hb hby d1_76) rfl ?_
      show Steps p.tables e below (s₁.setTop (mkF m 78 #[.val (.long q0), .second, .val (.int p1), .val (.int ((((q0.toUInt64 >>> (p1 &&& 0x3f).toInt64.toUInt64).toInt64) &&& (2047 : Int64)).toInt32)), .val (.int (((((q0.toUInt64 >>> (p1 &&& 0x3f).toInt64.toUInt64).toInt64) &&& (2047 : Int64)).toInt32) &&& (7 : Int32))), .val (.int (10 : Int32))] [(.int (10 : Int32))])) _
      exact k
    exact own_retN X0 hx hlk hret (by simp) (hb hby d1_78) (by decide) (by decide) N0 ⟨rfl, e0⟩
  · rw [if_neg hc17_1]
    refine own_go (T' := s₁) (g' := (mkF m 27 #[.val (.long q0), .second, .val (.int p1), .val (.int ((((q0.toUInt64 >>> (p1 &&& 0x3f).toInt64.toUInt64).toInt64) &&& (2047 : Int64)).toInt32)), .val (.int (((((q0.toUInt64 >>> (p1 &&& 0x3f).toInt64.toUInt64).toInt64) &&& (2047 : Int64)).toInt32) &&& (7 : Int32))), .unset] [])) (fun t k => ?_) ?_
    · refine XS.ifYes X0.here hx rfl (pc0 := 17) (pc' := 27) rfl (hb hby d1_17) rfl ((if0 _ _).trans (feq hc17_1).2) (by decide) (by decide) ?_
      exact k
    refine own_go (T' := s₁) (g' := (mkF m 30 #[.val (.long q0), .second, .val (.int p1), .val (.int ((((q0.toUInt64 >>> (p1 &&& 0x3f).toInt64.toUInt64).toInt64) &&& (2047 : Int64)).toInt32)), .val (.int (((((q0.toUInt64 >>> (p1 &&& 0x3f).toInt64.toUInt64).toInt64) &&& (2047 : Int64)).toInt32) &&& (7 : Int32))), .unset] [(.int (1 : Int32)), (.int (((((q0.toUInt64 >>> (p1 &&& 0x3f).toInt64.toUInt64).toInt64) &&& (2047 : Int64)).toInt32) &&& (7 : Int32)))])) (fun t k => ?_) ?_
    · show Steps p.tables e below (s₁.setTop (mkF m 27 #[.val (.long q0), .second, .val (.int p1), .val (.int ((((q0.toUInt64 >>> (p1 &&& 0x3f).toInt64.toUInt64).toInt64) &&& (2047 : Int64)).toInt32)), .val (.int (((((q0.toUInt64 >>> (p1 &&& 0x3f).toInt64.toUInt64).toInt64) &&& (2047 : Int64)).toInt32) &&& (7 : Int32))), .unset] [])) t
      refine XS.iload X0.here hx rfl (hb hby d1_27) rfl ?_
      show Steps p.tables e below (s₁.setTop (mkF m 29 #[.val (.long q0), .second, .val (.int p1), .val (.int ((((q0.toUInt64 >>> (p1 &&& 0x3f).toInt64.toUInt64).toInt64) &&& (2047 : Int64)).toInt32)), .val (.int (((((q0.toUInt64 >>> (p1 &&& 0x3f).toInt64.toUInt64).toInt64) &&& (2047 : Int64)).toInt32) &&& (7 : Int32))), .unset] [(.int (((((q0.toUInt64 >>> (p1 &&& 0x3f).toInt64.toUInt64).toInt64) &&& (2047 : Int64)).toInt32) &&& (7 : Int32)))])) _
      refine XS.iconst X0.here hx rfl (hb hby d1_29) ?_
      show Steps p.tables e below (s₁.setTop (mkF m 30 #[.val (.long q0), .second, .val (.int p1), .val (.int ((((q0.toUInt64 >>> (p1 &&& 0x3f).toInt64.toUInt64).toInt64) &&& (2047 : Int64)).toInt32)), .val (.int (((((q0.toUInt64 >>> (p1 &&& 0x3f).toInt64.toUInt64).toInt64) &&& (2047 : Int64)).toInt32) &&& (7 : Int32))), .unset] [(.int (1 : Int32)), (.int (((((q0.toUInt64 >>> (p1 &&& 0x3f).toInt64.toUInt64).toInt64) &&& (2047 : Int64)).toInt32) &&& (7 : Int32)))])) _
      exact k
    by_cases hc30_2 : (((((q0.toUInt64 >>> (p1 &&& 0x3f).toInt64.toUInt64).toInt64) &&& (2047 : Int64)).toInt32) &&& (7 : Int32)) = (1 : Int32)
    · rw [if_pos hc30_2]
      refine own_go (T' := s₁) (g' := (mkF m 33 #[.val (.long q0), .second, .val (.int p1), .val (.int ((((q0.toUInt64 >>> (p1 &&& 0x3f).toInt64.toUInt64).toInt64) &&& (2047 : Int64)).toInt32)), .val (.int (((((q0.toUInt64 >>> (p1 &&& 0x3f).toInt64.toUInt64).toInt64) &&& (2047 : Int64)).toInt32) &&& (7 : Int32))), .unset] [])) (fun t k => ?_) ?_
      · refine XS.icmpNo X0.here hx rfl (hb hby d1_30) rfl (teq hc30_2).2 ?_
        exact k
      refine own_go (T' := s₁) (g' := (mkF m 78 #[.val (.long q0), .second, .val (.int p1), .val (.int ((((q0.toUInt64 >>> (p1 &&& 0x3f).toInt64.toUInt64).toInt64) &&& (2047 : Int64)).toInt32)), .val (.int (((((q0.toUInt64 >>> (p1 &&& 0x3f).toInt64.toUInt64).toInt64) &&& (2047 : Int64)).toInt32) &&& (7 : Int32))), .val (.int (32 : Int32))] [(.int (32 : Int32))])) (fun t k => ?_) ?_
      · show Steps p.tables e below (s₁.setTop (mkF m 33 #[.val (.long q0), .second, .val (.int p1), .val (.int ((((q0.toUInt64 >>> (p1 &&& 0x3f).toInt64.toUInt64).toInt64) &&& (2047 : Int64)).toInt32)), .val (.int (((((q0.toUInt64 >>> (p1 &&& 0x3f).toInt64.toUInt64).toInt64) &&& (2047 : Int64)).toInt32) &&& (7 : Int32))), .unset] [])) t
        refine XS.bipush X0.here hx rfl (hb hby d1_33) ?_
        show Steps p.tables e below (s₁.setTop (mkF m 35 #[.val (.long q0), .second, .val (.int p1), .val (.int ((((q0.toUInt64 >>> (p1 &&& 0x3f).toInt64.toUInt64).toInt64) &&& (2047 : Int64)).toInt32)), .val (.int (((((q0.toUInt64 >>> (p1 &&& 0x3f).toInt64.toUInt64).toInt64) &&& (2047 : Int64)).toInt32) &&& (7 : Int32))), .unset] [(.int (32 : Int32))])) _
        refine XS.istore X0.here hx rfl (hb hby d1_35) rfl (l' := #[.val (.long q0), .second, .val (.int p1), .val (.int ((((q0.toUInt64 >>> (p1 &&& 0x3f).toInt64.toUInt64).toInt64) &&& (2047 : Int64)).toInt32)), .val (.int (((((q0.toUInt64 >>> (p1 &&& 0x3f).toInt64.toUInt64).toInt64) &&& (2047 : Int64)).toInt32) &&& (7 : Int32))), .val (.int (32 : Int32))]) rfl ?_
        show Steps p.tables e below (s₁.setTop (mkF m 37 #[.val (.long q0), .second, .val (.int p1), .val (.int ((((q0.toUInt64 >>> (p1 &&& 0x3f).toInt64.toUInt64).toInt64) &&& (2047 : Int64)).toInt32)), .val (.int (((((q0.toUInt64 >>> (p1 &&& 0x3f).toInt64.toUInt64).toInt64) &&& (2047 : Int64)).toInt32) &&& (7 : Int32))), .val (.int (32 : Int32))] [])) _
        refine XS.goto X0.here hx rfl (pc0 := 37) (pc' := 76) rfl (hb hby d1_37) (by decide) (by decide) ?_
        show Steps p.tables e below (s₁.setTop (mkF m 76 #[.val (.long q0), .second, .val (.int p1), .val (.int ((((q0.toUInt64 >>> (p1 &&& 0x3f).toInt64.toUInt64).toInt64) &&& (2047 : Int64)).toInt32)), .val (.int (((((q0.toUInt64 >>> (p1 &&& 0x3f).toInt64.toUInt64).toInt64) &&& (2047 : Int64)).toInt32) &&& (7 : Int32))), .val (.int (32 : Int32))] [])) _
        refine XS.iload X0.here hx rfl (hb hby d1_76) rfl ?_
        show Steps p.tables e below (s₁.setTop (mkF m 78 #[.val (.long q0), .second, .val (.int p1), .val (.int ((((q0.toUInt64 >>> (p1 &&& 0x3f).toInt64.toUInt64).toInt64) &&& (2047 : Int64)).toInt32)), .val (.int (((((q0.toUInt64 >>> (p1 &&& 0x3f).toInt64.toUInt64).toInt64) &&& (2047 : Int64)).toInt32) &&& (7 : Int32))), .val (.int (32 : Int32))] [(.int (32 : Int32))])) _
        exact k
      exact own_retN X0 hx hlk hret (by simp) (hb hby d1_78) (by decide) (by decide) N0 ⟨rfl, e0⟩
    · rw [if_neg hc30_2]
      refine own_go (T' := s₁) (g' := (mkF m 40 #[.val (.long q0), .second, .val (.int p1), .val (.int ((((q0.toUInt64 >>> (p1 &&& 0x3f).toInt64.toUInt64).toInt64) &&& (2047 : Int64)).toInt32)), .val (.int (((((q0.toUInt64 >>> (p1 &&& 0x3f).toInt64.toUInt64).toInt64) &&& (2047 : Int64)).toInt32) &&& (7 : Int32))), .unset] [])) (fun t k => ?_) ?_
      · refine XS.icmpYes X0.here hx rfl (pc0 := 30) (pc' := 40) rfl (hb hby d1_30) rfl (feq hc30_2).2 (by decide) (by decide) ?_
        exact k
      refine own_go (T' := s₁) (g' := (mkF m 43 #[.val (.long q0), .second, .val (.int p1), .val (.int ((((q0.toUInt64 >>> (p1 &&& 0x3f).toInt64.toUInt64).toInt64) &&& (2047 : Int64)).toInt32)), .val (.int (((((q0.toUInt64 >>> (p1 &&& 0x3f).toInt64.toUInt64).toInt64) &&& (2047 : Int64)).toInt32) &&& (7 : Int32))), .unset] [(.int (2 : Int32)), (.int (((((q0.toUInt64 >>> (p1 &&& 0x3f).toInt64.toUInt64).toInt64) &&& (2047 : Int64)).toInt32) &&& (7 : Int32)))])) (fun t k => ?_) ?_
      · show Steps p.tables e below (s₁.setTop (mkF m 40 #[.val (.long q0), .second, .val (.int p1), .val (.int ((((q0.toUInt64 >>> (p1 &&& 0x3f).toInt64.toUInt64).toInt64) &&& (2047 : Int64)).toInt32)), .val (.int (((((q0.toUInt64 >>> (p1 &&& 0x3f).toInt64.toUInt64).toInt64) &&& (2047 : Int64)).toInt32) &&& (7 : Int32))), .unset] [])) t
        refine XS.iload X0.here hx rfl (hb hby d1_40) rfl ?_
        show Steps p.tables e below (s₁.setTop (mkF m 42 #[.val (.long q0), .second, .val (.int p1), .val (.int ((((q0.toUInt64 >>> (p1 &&& 0x3f).toInt64.toUInt64).toInt64) &&& (2047 : Int64)).toInt32)), .val (.int (((((q0.toUInt64 >>> (p1 &&& 0x3f).toInt64.toUInt64).toInt64) &&& (2047 : Int64)).toInt32) &&& (7 : Int32))), .unset] [(.int (((((q0.toUInt64 >>> (p1 &&& 0x3f).toInt64.toUInt64).toInt64) &&& (2047 : Int64)).toInt32) &&& (7 : Int32)))])) _
        refine XS.iconst X0.here hx rfl (hb hby d1_42) ?_
        show Steps p.tables e below (s₁.setTop (mkF m 43 #[.val (.long q0), .second, .val (.int p1), .val (.int ((((q0.toUInt64 >>> (p1 &&& 0x3f).toInt64.toUInt64).toInt64) &&& (2047 : Int64)).toInt32)), .val (.int (((((q0.toUInt64 >>> (p1 &&& 0x3f).toInt64.toUInt64).toInt64) &&& (2047 : Int64)).toInt32) &&& (7 : Int32))), .unset] [(.int (2 : Int32)), (.int (((((q0.toUInt64 >>> (p1 &&& 0x3f).toInt64.toUInt64).toInt64) &&& (2047 : Int64)).toInt32) &&& (7 : Int32)))])) _
        exact k
      by_cases hc43_3 : (((((q0.toUInt64 >>> (p1 &&& 0x3f).toInt64.toUInt64).toInt64) &&& (2047 : Int64)).toInt32) &&& (7 : Int32)) = (2 : Int32)
      · rw [if_pos hc43_3]
        refine own_go (T' := s₁) (g' := (mkF m 46 #[.val (.long q0), .second, .val (.int p1), .val (.int ((((q0.toUInt64 >>> (p1 &&& 0x3f).toInt64.toUInt64).toInt64) &&& (2047 : Int64)).toInt32)), .val (.int (((((q0.toUInt64 >>> (p1 &&& 0x3f).toInt64.toUInt64).toInt64) &&& (2047 : Int64)).toInt32) &&& (7 : Int32))), .unset] [])) (fun t k => ?_) ?_
        · refine XS.icmpNo X0.here hx rfl (hb hby d1_43) rfl (teq hc43_3).2 ?_
          exact k
        refine own_go (T' := s₁) (g' := (mkF m 78 #[.val (.long q0), .second, .val (.int p1), .val (.int ((((q0.toUInt64 >>> (p1 &&& 0x3f).toInt64.toUInt64).toInt64) &&& (2047 : Int64)).toInt32)), .val (.int (((((q0.toUInt64 >>> (p1 &&& 0x3f).toInt64.toUInt64).toInt64) &&& (2047 : Int64)).toInt32) &&& (7 : Int32))), .val (.int (9 : Int32))] [(.int (9 : Int32))])) (fun t k => ?_) ?_
        · show Steps p.tables e below (s₁.setTop (mkF m 46 #[.val (.long q0), .second, .val (.int p1), .val (.int ((((q0.toUInt64 >>> (p1 &&& 0x3f).toInt64.toUInt64).toInt64) &&& (2047 : Int64)).toInt32)), .val (.int (((((q0.toUInt64 >>> (p1 &&& 0x3f).toInt64.toUInt64).toInt64) &&& (2047 : Int64)).toInt32) &&& (7 : Int32))), .unset] [])) t
          refine XS.bipush X0.here hx rfl (hb hby d1_46) ?_
          show Steps p.tables e below (s₁.setTop (mkF m 48 #[.val (.long q0), .second, .val (.int p1), .val (.int ((((q0.toUInt64 >>> (p1 &&& 0x3f).toInt64.toUInt64).toInt64) &&& (2047 : Int64)).toInt32)), .val (.int (((((q0.toUInt64 >>> (p1 &&& 0x3f).toInt64.toUInt64).toInt64) &&& (2047 : Int64)).toInt32) &&& (7 : Int32))), .unset] [(.int (9 : Int32))])) _
          refine XS.istore X0.here hx rfl (hb hby d1_48) rfl (l' := #[.val (.long q0), .second, .val (.int p1), .val (.int ((((q0.toUInt64 >>> (p1 &&& 0x3f).toInt64.toUInt64).toInt64) &&& (2047 : Int64)).toInt32)), .val (.int (((((q0.toUInt64 >>> (p1 &&& 0x3f).toInt64.toUInt64).toInt64) &&& (2047 : Int64)).toInt32) &&& (7 : Int32))), .val (.int (9 : Int32))]) rfl ?_
          show Steps p.tables e below (s₁.setTop (mkF m 50 #[.val (.long q0), .second, .val (.int p1), .val (.int ((((q0.toUInt64 >>> (p1 &&& 0x3f).toInt64.toUInt64).toInt64) &&& (2047 : Int64)).toInt32)), .val (.int (((((q0.toUInt64 >>> (p1 &&& 0x3f).toInt64.toUInt64).toInt64) &&& (2047 : Int64)).toInt32) &&& (7 : Int32))), .val (.int (9 : Int32))] [])) _
          refine XS.goto X0.here hx rfl (pc0 := 50) (pc' := 76) rfl (hb hby d1_50) (by decide) (by decide) ?_
          show Steps p.tables e below (s₁.setTop (mkF m 76 #[.val (.long q0), .second, .val (.int p1), .val (.int ((((q0.toUInt64 >>> (p1 &&& 0x3f).toInt64.toUInt64).toInt64) &&& (2047 : Int64)).toInt32)), .val (.int (((((q0.toUInt64 >>> (p1 &&& 0x3f).toInt64.toUInt64).toInt64) &&& (2047 : Int64)).toInt32) &&& (7 : Int32))), .val (.int (9 : Int32))] [])) _
          refine XS.iload X0.here hx rfl (hb hby d1_76) rfl ?_
          show Steps p.tables e below (s₁.setTop (mkF m 78 #[.val (.long q0), .second, .val (.int p1), .val (.int ((((q0.toUInt64 >>> (p1 &&& 0x3f).toInt64.toUInt64).toInt64) &&& (2047 : Int64)).toInt32)), .val (.int (((((q0.toUInt64 >>> (p1 &&& 0x3f).toInt64.toUInt64).toInt64) &&& (2047 : Int64)).toInt32) &&& (7 : Int32))), .val (.int (9 : Int32))] [(.int (9 : Int32))])) _
          exact k
        exact own_retN X0 hx hlk hret (by simp) (hb hby d1_78) (by decide) (by decide) N0 ⟨rfl, e0⟩
      · rw [if_neg hc43_3]
        refine own_go (T' := s₁) (g' := (mkF m 53 #[.val (.long q0), .second, .val (.int p1), .val (.int ((((q0.toUInt64 >>> (p1 &&& 0x3f).toInt64.toUInt64).toInt64) &&& (2047 : Int64)).toInt32)), .val (.int (((((q0.toUInt64 >>> (p1 &&& 0x3f).toInt64.toUInt64).toInt64) &&& (2047 : Int64)).toInt32) &&& (7 : Int32))), .unset] [])) (fun t k => ?_) ?_
        · refine XS.icmpYes X0.here hx rfl (pc0 := 43) (pc' := 53) rfl (hb hby d1_43) rfl (feq hc43_3).2 (by decide) (by decide) ?_
          exact k
        refine own_go (T' := s₁) (g' := (mkF m 56 #[.val (.long q0), .second, .val (.int p1), .val (.int ((((q0.toUInt64 >>> (p1 &&& 0x3f).toInt64.toUInt64).toInt64) &&& (2047 : Int64)).toInt32)), .val (.int (((((q0.toUInt64 >>> (p1 &&& 0x3f).toInt64.toUInt64).toInt64) &&& (2047 : Int64)).toInt32) &&& (7 : Int32))), .unset] [(.int (3 : Int32)), (.int (((((q0.toUInt64 >>> (p1 &&& 0x3f).toInt64.toUInt64).toInt64) &&& (2047 : Int64)).toInt32) &&& (7 : Int32)))])) (fun t k => ?_) ?_
        · show Steps p.tables e below (s₁.setTop (mkF m 53 #[.val (.long q0), .second, .val (.int p1), .val (.int ((((q0.toUInt64 >>> (p1 &&& 0x3f).toInt64.toUInt64).toInt64) &&& (2047 : Int64)).toInt32)), .val (.int (((((q0.toUInt64 >>> (p1 &&& 0x3f).toInt64.toUInt64).toInt64) &&& (2047 : Int64)).toInt32) &&& (7 : Int32))), .unset] [])) t
          refine XS.iload X0.here hx rfl (hb hby d1_53) rfl ?_
          show Steps p.tables e below (s₁.setTop (mkF m 55 #[.val (.long q0), .second, .val (.int p1), .val (.int ((((q0.toUInt64 >>> (p1 &&& 0x3f).toInt64.toUInt64).toInt64) &&& (2047 : Int64)).toInt32)), .val (.int (((((q0.toUInt64 >>> (p1 &&& 0x3f).toInt64.toUInt64).toInt64) &&& (2047 : Int64)).toInt32) &&& (7 : Int32))), .unset] [(.int (((((q0.toUInt64 >>> (p1 &&& 0x3f).toInt64.toUInt64).toInt64) &&& (2047 : Int64)).toInt32) &&& (7 : Int32)))])) _
          refine XS.iconst X0.here hx rfl (hb hby d1_55) ?_
          show Steps p.tables e below (s₁.setTop (mkF m 56 #[.val (.long q0), .second, .val (.int p1), .val (.int ((((q0.toUInt64 >>> (p1 &&& 0x3f).toInt64.toUInt64).toInt64) &&& (2047 : Int64)).toInt32)), .val (.int (((((q0.toUInt64 >>> (p1 &&& 0x3f).toInt64.toUInt64).toInt64) &&& (2047 : Int64)).toInt32) &&& (7 : Int32))), .unset] [(.int (3 : Int32)), (.int (((((q0.toUInt64 >>> (p1 &&& 0x3f).toInt64.toUInt64).toInt64) &&& (2047 : Int64)).toInt32) &&& (7 : Int32)))])) _
          exact k
        by_cases hc56_4 : (((((q0.toUInt64 >>> (p1 &&& 0x3f).toInt64.toUInt64).toInt64) &&& (2047 : Int64)).toInt32) &&& (7 : Int32)) = (3 : Int32)
        · rw [if_pos hc56_4]
          refine own_go (T' := s₁) (g' := (mkF m 59 #[.val (.long q0), .second, .val (.int p1), .val (.int ((((q0.toUInt64 >>> (p1 &&& 0x3f).toInt64.toUInt64).toInt64) &&& (2047 : Int64)).toInt32)), .val (.int (((((q0.toUInt64 >>> (p1 &&& 0x3f).toInt64.toUInt64).toInt64) &&& (2047 : Int64)).toInt32) &&& (7 : Int32))), .unset] [])) (fun t k => ?_) ?_
          · refine XS.icmpNo X0.here hx rfl (hb hby d1_56) rfl (teq hc56_4).2 ?_
            exact k
          refine own_go (T' := s₁) (g' := (mkF m 78 #[.val (.long q0), .second, .val (.int p1), .val (.int ((((q0.toUInt64 >>> (p1 &&& 0x3f).toInt64.toUInt64).toInt64) &&& (2047 : Int64)).toInt32)), .val (.int (((((q0.toUInt64 >>> (p1 &&& 0x3f).toInt64.toUInt64).toInt64) &&& (2047 : Int64)).toInt32) &&& (7 : Int32))), .val (.int (60 : Int32))] [(.int (60 : Int32))])) (fun t k => ?_) ?_
          · show Steps p.tables e below (s₁.setTop (mkF m 59 #[.val (.long q0), .second, .val (.int p1), .val (.int ((((q0.toUInt64 >>> (p1 &&& 0x3f).toInt64.toUInt64).toInt64) &&& (2047 : Int64)).toInt32)), .val (.int (((((q0.toUInt64 >>> (p1 &&& 0x3f).toInt64.toUInt64).toInt64) &&& (2047 : Int64)).toInt32) &&& (7 : Int32))), .unset] [])) t
            refine XS.bipush X0.here hx rfl (hb hby d1_59) ?_
            show Steps p.tables e below (s₁.setTop (mkF m 61 #[.val (.long q0), .second, .val (.int p1), .val (.int ((((q0.toUInt64 >>> (p1 &&& 0x3f).toInt64.toUInt64).toInt64) &&& (2047 : Int64)).toInt32)), .val (.int (((((q0.toUInt64 >>> (p1 &&& 0x3f).toInt64.toUInt64).toInt64) &&& (2047 : Int64)).toInt32) &&& (7 : Int32))), .unset] [(.int (60 : Int32))])) _
            refine XS.istore X0.here hx rfl (hb hby d1_61) rfl (l' := #[.val (.long q0), .second, .val (.int p1), .val (.int ((((q0.toUInt64 >>> (p1 &&& 0x3f).toInt64.toUInt64).toInt64) &&& (2047 : Int64)).toInt32)), .val (.int (((((q0.toUInt64 >>> (p1 &&& 0x3f).toInt64.toUInt64).toInt64) &&& (2047 : Int64)).toInt32) &&& (7 : Int32))), .val (.int (60 : Int32))]) rfl ?_
            show Steps p.tables e below (s₁.setTop (mkF m 63 #[.val (.long q0), .second, .val (.int p1), .val (.int ((((q0.toUInt64 >>> (p1 &&& 0x3f).toInt64.toUInt64).toInt64) &&& (2047 : Int64)).toInt32)), .val (.int (((((q0.toUInt64 >>> (p1 &&& 0x3f).toInt64.toUInt64).toInt64) &&& (2047 : Int64)).toInt32) &&& (7 : Int32))), .val (.int (60 : Int32))] [])) _
            refine XS.goto X0.here hx rfl (pc0 := 63) (pc' := 76) rfl (hb hby d1_63) (by decide) (by decide) ?_
            show Steps p.tables e below (s₁.setTop (mkF m 76 #[.val (.long q0), .second, .val (.int p1), .val (.int ((((q0.toUInt64 >>> (p1 &&& 0x3f).toInt64.toUInt64).toInt64) &&& (2047 : Int64)).toInt32)), .val (.int (((((q0.toUInt64 >>> (p1 &&& 0x3f).toInt64.toUInt64).toInt64) &&& (2047 : Int64)).toInt32) &&& (7 : Int32))), .val (.int (60 : Int32))] [])) _
            refine XS.iload X0.here hx rfl (hb hby d1_76) rfl ?_
            show Steps p.tables e below (s₁.setTop (mkF m 78 #[.val (.long q0), .second, .val (.int p1), .val (.int ((((q0.toUInt64 >>> (p1 &&& 0x3f).toInt64.toUInt64).toInt64) &&& (2047 : Int64)).toInt32)), .val (.int (((((q0.toUInt64 >>> (p1 &&& 0x3f).toInt64.toUInt64).toInt64) &&& (2047 : Int64)).toInt32) &&& (7 : Int32))), .val (.int (60 : Int32))] [(.int (60 : Int32))])) _
            exact k
          exact own_retN X0 hx hlk hret (by simp) (hb hby d1_78) (by decide) (by decide) N0 ⟨rfl, e0⟩
        · rw [if_neg hc56_4]
          refine own_go (T' := s₁) (g' := (mkF m 66 #[.val (.long q0), .second, .val (.int p1), .val (.int ((((q0.toUInt64 >>> (p1 &&& 0x3f).toInt64.toUInt64).toInt64) &&& (2047 : Int64)).toInt32)), .val (.int (((((q0.toUInt64 >>> (p1 &&& 0x3f).toInt64.toUInt64).toInt64) &&& (2047 : Int64)).toInt32) &&& (7 : Int32))), .unset] [])) (fun t k => ?_) ?_
          · refine XS.icmpYes X0.here hx rfl (pc0 := 56) (pc' := 66) rfl (hb hby d1_56) rfl (feq hc56_4).2 (by decide) (by decide) ?_
            exact k
          refine own_go (T' := s₁) (g' := (mkF m 78 #[.val (.long q0), .second, .val (.int p1), .val (.int ((((q0.toUInt64 >>> (p1 &&& 0x3f).toInt64.toUInt64).toInt64) &&& (2047 : Int64)).toInt32)), .val (.int (((((q0.toUInt64 >>> (p1 &&& 0x3f).toInt64.toUInt64).toInt64) &&& (2047 : Int64)).toInt32) &&& (7 : Int32))), .val (.int ((((((((q0.toUInt64 >>> (p1 &&& 0x3f).toInt64.toUInt64).toInt64) &&& (2047 : Int64)).toInt32).toUInt32 >>> ((3 : Int32) &&& 31).toUInt32).toInt32) &&& (255 : Int32)).toUInt32.toUInt16.toUInt32.toInt32))] [(.int ((((((((q0.toUInt64 >>> (p1 &&& 0x3f).toInt64.toUInt64).toInt64) &&& (2047 : Int64)).toInt32).toUInt32 >>> ((3 : Int32) &&& 31).toUInt32).toInt32) &&& (255 : Int32)).toUInt32.toUInt16.toUInt32.toInt32))])) (fun t k => ?_) ?_
          · show Steps p.tables e below (s₁.setTop (mkF m 66 #[.val (.long q0), .second, .val (.int p1), .val (.int ((((q0.toUInt64 >>> (p1 &&& 0x3f).toInt64.toUInt64).toInt64) &&& (2047 : Int64)).toInt32)), .val (.int (((((q0.toUInt64 >>> (p1 &&& 0x3f).toInt64.toUInt64).toInt64) &&& (2047 : Int64)).toInt32) &&& (7 : Int32))), .unset] [])) t
            refine XS.iloadN X0.here hx rfl (hb hby d1_66) rfl ?_
            show Steps p.tables e below (s₁.setTop (mkF m 67 #[.val (.long q0), .second, .val (.int p1), .val (.int ((((q0.toUInt64 >>> (p1 &&& 0x3f).toInt64.toUInt64).toInt64) &&& (2047 : Int64)).toInt32)), .val (.int (((((q0.toUInt64 >>> (p1 &&& 0x3f).toInt64.toUInt64).toInt64) &&& (2047 : Int64)).toInt32) &&& (7 : Int32))), .unset] [(.int ((((q0.toUInt64 >>> (p1 &&& 0x3f).toInt64.toUInt64).toInt64) &&& (2047 : Int64)).toInt32))])) _
            refine XS.iconst X0.here hx rfl (hb hby d1_67) ?_
            show Steps p.tables e below (s₁.setTop (mkF m 68 #[.val (.long q0), .second, .val (.int p1), .val (.int ((((q0.toUInt64 >>> (p1 &&& 0x3f).toInt64.toUInt64).toInt64) &&& (2047 : Int64)).toInt32)), .val (.int (((((q0.toUInt64 >>> (p1 &&& 0x3f).toInt64.toUInt64).toInt64) &&& (2047 : Int64)).toInt32) &&& (7 : Int32))), .unset] [(.int (3 : Int32)), (.int ((((q0.toUInt64 >>> (p1 &&& 0x3f).toInt64.toUInt64).toInt64) &&& (2047 : Int64)).toInt32))])) _
            refine XS.iushr X0.here hx rfl (hb hby d1_68) rfl ?_
            show Steps p.tables e below (s₁.setTop (mkF m 69 #[.val (.long q0), .second, .val (.int p1), .val (.int ((((q0.toUInt64 >>> (p1 &&& 0x3f).toInt64.toUInt64).toInt64) &&& (2047 : Int64)).toInt32)), .val (.int (((((q0.toUInt64 >>> (p1 &&& 0x3f).toInt64.toUInt64).toInt64) &&& (2047 : Int64)).toInt32) &&& (7 : Int32))), .unset] [(.int ((((((q0.toUInt64 >>> (p1 &&& 0x3f).toInt64.toUInt64).toInt64) &&& (2047 : Int64)).toInt32).toUInt32 >>> ((3 : Int32) &&& 31).toUInt32).toInt32))])) _
            refine XS.sipush X0.here hx rfl (hb hby d1_69) ?_
            show Steps p.tables e below (s₁.setTop (mkF m 72 #[.val (.long q0), .second, .val (.int p1), .val (.int ((((q0.toUInt64 >>> (p1 &&& 0x3f).toInt64.toUInt64).toInt64) &&& (2047 : Int64)).toInt32)), .val (.int (((((q0.toUInt64 >>> (p1 &&& 0x3f).toInt64.toUInt64).toInt64) &&& (2047 : Int64)).toInt32) &&& (7 : Int32))), .unset] [(.int (255 : Int32)), (.int ((((((q0.toUInt64 >>> (p1 &&& 0x3f).toInt64.toUInt64).toInt64) &&& (2047 : Int64)).toInt32).toUInt32 >>> ((3 : Int32) &&& 31).toUInt32).toInt32))])) _
            refine XS.iand X0.here hx rfl (hb hby d1_72) rfl ?_
            show Steps p.tables e below (s₁.setTop (mkF m 73 #[.val (.long q0), .second, .val (.int p1), .val (.int ((((q0.toUInt64 >>> (p1 &&& 0x3f).toInt64.toUInt64).toInt64) &&& (2047 : Int64)).toInt32)), .val (.int (((((q0.toUInt64 >>> (p1 &&& 0x3f).toInt64.toUInt64).toInt64) &&& (2047 : Int64)).toInt32) &&& (7 : Int32))), .unset] [(.int (((((((q0.toUInt64 >>> (p1 &&& 0x3f).toInt64.toUInt64).toInt64) &&& (2047 : Int64)).toInt32).toUInt32 >>> ((3 : Int32) &&& 31).toUInt32).toInt32) &&& (255 : Int32)))])) _
            refine XS.i2c X0.here hx rfl (hb hby d1_73) rfl ?_
            show Steps p.tables e below (s₁.setTop (mkF m 74 #[.val (.long q0), .second, .val (.int p1), .val (.int ((((q0.toUInt64 >>> (p1 &&& 0x3f).toInt64.toUInt64).toInt64) &&& (2047 : Int64)).toInt32)), .val (.int (((((q0.toUInt64 >>> (p1 &&& 0x3f).toInt64.toUInt64).toInt64) &&& (2047 : Int64)).toInt32) &&& (7 : Int32))), .unset] [(.int ((((((((q0.toUInt64 >>> (p1 &&& 0x3f).toInt64.toUInt64).toInt64) &&& (2047 : Int64)).toInt32).toUInt32 >>> ((3 : Int32) &&& 31).toUInt32).toInt32) &&& (255 : Int32)).toUInt32.toUInt16.toUInt32.toInt32))])) _
            refine XS.istore X0.here hx rfl (hb hby d1_74) rfl (l' := #[.val (.long q0), .second, .val (.int p1), .val (.int ((((q0.toUInt64 >>> (p1 &&& 0x3f).toInt64.toUInt64).toInt64) &&& (2047 : Int64)).toInt32)), .val (.int (((((q0.toUInt64 >>> (p1 &&& 0x3f).toInt64.toUInt64).toInt64) &&& (2047 : Int64)).toInt32) &&& (7 : Int32))), .val (.int ((((((((q0.toUInt64 >>> (p1 &&& 0x3f).toInt64.toUInt64).toInt64) &&& (2047 : Int64)).toInt32).toUInt32 >>> ((3 : Int32) &&& 31).toUInt32).toInt32) &&& (255 : Int32)).toUInt32.toUInt16.toUInt32.toInt32))]) rfl ?_
            show Steps p.tables e below (s₁.setTop (mkF m 76 #[.val (.long q0), .second, .val (.int p1), .val (.int ((((q0.toUInt64 >>> (p1 &&& 0x3f).toInt64.toUInt64).toInt64) &&& (2047 : Int64)).toInt32)), .val (.int (((((q0.toUInt64 >>> (p1 &&& 0x3f).toInt64.toUInt64).toInt64) &&& (2047 : Int64)).toInt32) &&& (7 : Int32))), .val (.int ((((((((q0.toUInt64 >>> (p1 &&& 0x3f).toInt64.toUInt64).toInt64) &&& (2047 : Int64)).toInt32).toUInt32 >>> ((3 : Int32) &&& 31).toUInt32).toInt32) &&& (255 : Int32)).toUInt32.toUInt16.toUInt32.toInt32))] [])) _
            refine XS.iload X0.here hx rfl (hb hby d1_76) rfl ?_
            show Steps p.tables e below (s₁.setTop (mkF m 78 #[.val (.long q0), .second, .val (.int p1), .val (.int ((((q0.toUInt64 >>> (p1 &&& 0x3f).toInt64.toUInt64).toInt64) &&& (2047 : Int64)).toInt32)), .val (.int (((((q0.toUInt64 >>> (p1 &&& 0x3f).toInt64.toUInt64).toInt64) &&& (2047 : Int64)).toInt32) &&& (7 : Int32))), .val (.int ((((((((q0.toUInt64 >>> (p1 &&& 0x3f).toInt64.toUInt64).toInt64) &&& (2047 : Int64)).toInt32).toUInt32 >>> ((3 : Int32) &&& 31).toUInt32).toInt32) &&& (255 : Int32)).toUInt32.toUInt16.toUInt32.toInt32))] [(.int ((((((((q0.toUInt64 >>> (p1 &&& 0x3f).toInt64.toUInt64).toInt64) &&& (2047 : Int64)).toInt32).toUInt32 >>> ((3 : Int32) &&& 31).toUInt32).toInt32) &&& (255 : Int32)).toUInt32.toUInt16.toUInt32.toInt32))])) _
            exact k
          exact own_retN X0 hx hlk hret (by simp) (hb hby d1_78) (by decide) (by decide) N0 ⟨rfl, e0⟩
def f11_0 (p0 : Int32) : Int32 := (if p0 = (32 : Int32) then (1 : Int32) else (if p0 = (9 : Int32) then (1 : Int32) else (0 : Int32)))
abbrev own_r11 : Room := { frames := 0, cells := 0, slots := 0, locals := 0 }
theorem d11_0 : decode method_4_code 0 = .ok (.iload_n 0, 1) := by decide +kernel
theorem d11_1 : decode method_4_code 1 = .ok (.bipush 32, 2) := by decide +kernel
theorem d11_3 : decode method_4_code 3 = .ok (.if_icmp .eq 9, 3) := by decide +kernel
theorem d11_12 : decode method_4_code 12 = .ok (.iconst 1, 1) := by decide +kernel
theorem d11_13 : decode method_4_code 13 = .ok (.goto 4, 3) := by decide +kernel
theorem d11_17 : decode method_4_code 17 = .ok (.ireturn, 1) := by decide +kernel
theorem d11_6 : decode method_4_code 6 = .ok (.iload_n 0, 1) := by decide +kernel
theorem d11_7 : decode method_4_code 7 = .ok (.bipush 9, 2) := by decide +kernel
theorem d11_9 : decode method_4_code 9 = .ok (.if_icmp .ne 7, 3) := by decide +kernel
theorem d11_16 : decode method_4_code 16 = .ok (.iconst 0, 1) := by decide +kernel
theorem ef_11 (m : MethodId) (p0 : Int32) : entryFrame m #[(.int p0)] 1 = mkF m 0 #[.val (.int p0)] [] := by first | (simp [entryFrame, mkF, argsToLocals, Value.category]; done) | rfl
set_option maxRecDepth 65536 in
set_option maxHeartbeats 40000000 in
theorem rm11 (l : Launch) (Z : State) (a0 : Array Value) (hw : ∀ d ∈ tables_1, d.before a0 Z = true) (p0 : Int32) (h0 : Heap) (n0 : Nat) : own_Con [] l Z (⟨"com/example/virta/virta/InputSkipIndentationPinLaw", "ws", "(C)Z"⟩ : MethodName) method_4_code 1 (some .boolean) own_r11 n0 #[(.int p0)] h0 (own_P (.int (f11_0 p0)) h0) := by
  refine own_body (plainFor_of_name (by first | (simp [plainName, overriddenIn]; done) | decide +kernel)) (fun m => mkF m 0 #[.val (.int p0)] []) (fun m => ef_11 m p0) ?_
  intro p e s m below meth c s₁ hx hby hml hown hnm hZ hret hlk X0 e0 N0
  show own_Ends p e below s n0 _ _ _ _ (own_P (.int (if p0 = (32 : Int32) then (1 : Int32) else (if p0 = (9 : Int32) then (1 : Int32) else (0 : Int32)))) h0)
  refine own_go (T' := s₁) (g' := (mkF m 3 #[.val (.int p0)] [(.int (32 : Int32)), (.int p0)])) (fun t k => ?_) ?_
  · show Steps p.tables e below (s₁.setTop (mkF m 0 #[.val (.int p0)] [])) t
    refine XS.iloadN X0.here hx rfl (hb hby d11_0) rfl ?_
    show Steps p.tables e below (s₁.setTop (mkF m 1 #[.val (.int p0)] [(.int p0)])) _
    refine XS.bipush X0.here hx rfl (hb hby d11_1) ?_
    show Steps p.tables e below (s₁.setTop (mkF m 3 #[.val (.int p0)] [(.int (32 : Int32)), (.int p0)])) _
    exact k
  by_cases hc3_1 : p0 = (32 : Int32)
  · rw [if_pos hc3_1]
    refine own_go (T' := s₁) (g' := (mkF m 12 #[.val (.int p0)] [])) (fun t k => ?_) ?_
    · refine XS.icmpYes X0.here hx rfl (pc0 := 3) (pc' := 12) rfl (hb hby d11_3) rfl (teq hc3_1).1 (by decide) (by decide) ?_
      exact k
    refine own_go (T' := s₁) (g' := (mkF m 17 #[.val (.int p0)] [(.int (1 : Int32))])) (fun t k => ?_) ?_
    · show Steps p.tables e below (s₁.setTop (mkF m 12 #[.val (.int p0)] [])) t
      refine XS.iconst X0.here hx rfl (hb hby d11_12) ?_
      show Steps p.tables e below (s₁.setTop (mkF m 13 #[.val (.int p0)] [(.int (1 : Int32))])) _
      refine XS.goto X0.here hx rfl (pc0 := 13) (pc' := 17) rfl (hb hby d11_13) (by decide) (by decide) ?_
      show Steps p.tables e below (s₁.setTop (mkF m 17 #[.val (.int p0)] [(.int (1 : Int32))])) _
      exact k
    exact own_retN X0 hx hlk hret (by simp) (hb hby d11_17) (by decide) (by decide) N0 ⟨rfl, e0⟩
  · rw [if_neg hc3_1]
    refine own_go (T' := s₁) (g' := (mkF m 6 #[.val (.int p0)] [])) (fun t k => ?_) ?_
    · refine XS.icmpNo X0.here hx rfl (hb hby d11_3) rfl (feq hc3_1).1 ?_
      exact k
    refine own_go (T' := s₁) (g' := (mkF m 9 #[.val (.int p0)] [(.int (9 : Int32)), (.int p0)])) (fun t k => ?_) ?_
    · show Steps p.tables e below (s₁.setTop (mkF m 6 #[.val (.int p0)] [])) t
      refine XS.iloadN X0.here hx rfl (hb hby d11_6) rfl ?_
      show Steps p.tables e below (s₁.setTop (mkF m 7 #[.val (.int p0)] [(.int p0)])) _
      refine XS.bipush X0.here hx rfl (hb hby d11_7) ?_
      show Steps p.tables e below (s₁.setTop (mkF m 9 #[.val (.int p0)] [(.int (9 : Int32)), (.int p0)])) _
      exact k
    by_cases hc9_2 : p0 = (9 : Int32)
    · rw [if_pos hc9_2]
      refine own_go (T' := s₁) (g' := (mkF m 12 #[.val (.int p0)] [])) (fun t k => ?_) ?_
      · refine XS.icmpNo X0.here hx rfl (hb hby d11_9) rfl (teq hc9_2).2 ?_
        exact k
      refine own_go (T' := s₁) (g' := (mkF m 17 #[.val (.int p0)] [(.int (1 : Int32))])) (fun t k => ?_) ?_
      · show Steps p.tables e below (s₁.setTop (mkF m 12 #[.val (.int p0)] [])) t
        refine XS.iconst X0.here hx rfl (hb hby d11_12) ?_
        show Steps p.tables e below (s₁.setTop (mkF m 13 #[.val (.int p0)] [(.int (1 : Int32))])) _
        refine XS.goto X0.here hx rfl (pc0 := 13) (pc' := 17) rfl (hb hby d11_13) (by decide) (by decide) ?_
        show Steps p.tables e below (s₁.setTop (mkF m 17 #[.val (.int p0)] [(.int (1 : Int32))])) _
        exact k
      exact own_retN X0 hx hlk hret (by simp) (hb hby d11_17) (by decide) (by decide) N0 ⟨rfl, e0⟩
    · rw [if_neg hc9_2]
      refine own_go (T' := s₁) (g' := (mkF m 16 #[.val (.int p0)] [])) (fun t k => ?_) ?_
      · refine XS.icmpYes X0.here hx rfl (pc0 := 9) (pc' := 16) rfl (hb hby d11_9) rfl (feq hc9_2).2 (by decide) (by decide) ?_
        exact k
      refine own_go (T' := s₁) (g' := (mkF m 17 #[.val (.int p0)] [(.int (0 : Int32))])) (fun t k => ?_) ?_
      · show Steps p.tables e below (s₁.setTop (mkF m 16 #[.val (.int p0)] [])) t
        refine XS.iconst X0.here hx rfl (hb hby d11_16) ?_
        show Steps p.tables e below (s₁.setTop (mkF m 17 #[.val (.int p0)] [(.int (0 : Int32))])) _
        exact k
      exact own_retN X0 hx hlk hret (by simp) (hb hby d11_17) (by decide) (by decide) N0 ⟨rfl, e0⟩
theorem own_ti {n : Nat} (h : n < 2 ^ 31) : (Int32.ofNat n).toInt = n := Jvm.LawKit.toInt_of rfl h
theorem own_ci {n : Nat} (h : n < 2 ^ 31) : (Int32.ofNat n).toNatClampNeg = n := Jvm.LawKit.clamp_of rfl h
theorem own_addN (a b : Nat) : Int32.ofNat a + Int32.ofNat b = Int32.ofNat (a + b) := by
  apply Int32.toBitVec_inj.mp
  simp [BitVec.ofNat_add]
theorem own_inc {n : Nat} : Int32.ofNat n + 1 = Int32.ofNat (n + 1) := (inc_ofNat n).symm
theorem own_ix {nn : Int32} {i : Nat} (hnn : nn = 6) (h : i < 6) : ¬ Int32.ofNat i < 0 ∧ Int32.ofNat i < nn := by
  rw [hnn, Int32.lt_iff_toInt_lt, Int32.lt_iff_toInt_lt, own_ti (by omega), show (0 : Int32).toInt = 0 from rfl, show (6 : Int32).toInt = 6 from rfl]
  omega
theorem own_gd' (cs : List Int32) (j : Nat) : (cs.map Value.int).getD j (.int 0) = .int (cs.getD j 0) := by
  simp only [List.getD_eq_getElem?_getD, List.getElem?_map]
  cases cs[j]? <;> rfl
theorem own_gd (cs : List Int32) {i : Nat} (h : i < 6) : (cs.map Value.int).getD (Int32.ofNat i).toNatClampNeg (.int 0) = .int (cs.getD i 0) := by
  rw [own_ci (by omega)]
  exact own_gd' cs i
theorem own_narc (x : Int32) : nar .char x.toUInt32.toUInt16.toUInt32.toInt32 = x.toUInt32.toUInt16.toUInt32.toInt32 := by
  show x.toUInt32.toUInt16.toUInt32.toInt32.toUInt32.toUInt16.toUInt32.toInt32 = _
  generalize x.toUInt32.toUInt16 = y
  have e : y.toUInt32.toInt32.toUInt32.toUInt16 = y := by simp
  rw [e]
theorem own_nat {v : Int32} {b : Nat} (h0 : 0 ≤ v.toInt) (h1 : v.toInt ≤ b) : ∃ n : Nat, v = Int32.ofNat n ∧ n ≤ b := by
  refine ⟨v.toInt.toNat, ?_, by omega⟩
  apply Int32.toInt_inj.mp
  have := rng32 v
  rw [own_ti (by omega)]
  omega
theorem own_lt6 {i : Nat} (h : ¬ Int32.ofNat i < 6) (hi : i ≤ 6) : ¬ i < 6 := by
  rw [Int32.lt_iff_toInt_lt, own_ti (by omega), show (6 : Int32).toInt = 6 from rfl] at h
  omega
theorem own_lt6' {i : Nat} (h : Int32.ofNat i < 6) (hi : i ≤ 6) : i < 6 := by
  rw [Int32.lt_iff_toInt_lt, own_ti (by omega), show (6 : Int32).toInt = 6 from rfl] at h
  omega
theorem own_is6 {i : Nat} (h : i < 6) : Int32.ofNat i < 6 := by
  rw [Int32.lt_iff_toInt_lt, own_ti (by omega), show (6 : Int32).toInt = 6 from rfl]
  omega
theorem own_no6 {i : Nat} (h : ¬ i < 6) (hi : i ≤ 6) : ¬ Int32.ofNat i < 6 := by
  rw [Int32.lt_iff_toInt_lt, own_ti (by omega), show (6 : Int32).toInt = 6 from rfl]
  omega
theorem own_subN {a b : Nat} (h : b ≤ a) (ha : a ≤ 6) : Int32.ofNat a - Int32.ofNat b = Int32.ofNat (a - b) := by
  have hs := c_isub (Int32.ofNat a) (Int32.ofNat b)
  have := rng32 (Int32.ofNat a - Int32.ofNat b)
  apply Int32.toInt_inj.mp
  rw [own_ti (by omega), own_ti (by omega)] at hs
  rw [own_ti (by omega)]
  omega
theorem own_j6 (y : Int32) : ¬ ((y &&& (2147483647 : Int32)) % (6 : Int32)) < 0 ∧ ((y &&& (2147483647 : Int32)) % (6 : Int32)) < 6 := by
  have h1 := c_mask y 2147483647 31 (by decide) (by decide)
  have h2 := c_irem (y &&& (2147483647 : Int32)) 6 6 (by decide)
  have h3 : 0 ≤ (y &&& (2147483647 : Int32)).toInt := by rw [h1]; omega
  have h4 := h2.1 h3
  rw [Int32.lt_iff_toInt_lt, Int32.lt_iff_toInt_lt, h4, show (0 : Int32).toInt = 0 from rfl, show (6 : Int32).toInt = 6 from rfl]
  omega

theorem own_pick (q : Int64) (p : Int32) : nar .char (f1_0 q p) = f1_0 q p := by
  have n : ∀ x : Int32, nar .char (nar .char x) = nar .char x := own_narc
  unfold f1_0
  repeat' split
  all_goals exact n _
def own_adv (cs : List Int32) (i : Nat) : Nat := if i < 6 then (if f11_0 (cs.getD i 0) = 0 then i else i + 1) else i
theorem own_adv_out {cs : List Int32} {i : Nat} (h : ¬ i < 6) : own_adv cs i = i := if_neg h
theorem own_adv_yes {cs : List Int32} {i : Nat} (h : i < 6) (h2 : ¬ f11_0 (cs.getD i 0) = 0) : own_adv cs i = i + 1 := by unfold own_adv; rw [if_pos h, if_neg h2]
theorem own_adv_no {cs : List Int32} {i : Nat} (h2 : f11_0 (cs.getD i 0) = 0) : own_adv cs i = i := by unfold own_adv; rw [if_pos h2]; split <;> rfl
theorem own_adv_le {cs : List Int32} {i : Nat} (h : i ≤ 6) : own_adv cs i ≤ 6 := by
  unfold own_adv
  by_cases h1 : i < 6
  · rw [if_pos h1]
    by_cases h2 : f11_0 (cs.getD i 0) = 0
    · rw [if_pos h2]; exact h
    · rw [if_neg h2]; exact h1
  · rw [if_neg h1]; exact h
theorem own_ws0 {c : Int32} (h1 : ¬ c = 32) (h2 : ¬ c = 9) : f11_0 c = 0 := by unfold f11_0; rw [if_neg h1, if_neg h2]
theorem own_ws32 {c : Int32} (h1 : c = 32) : ¬ f11_0 c = 0 := by unfold f11_0; rw [if_pos h1]; decide
theorem own_ws9 {c : Int32} (h1 : ¬ c = 32) (h2 : c = 9) : ¬ f11_0 c = 0 := by unfold f11_0; rw [if_neg h1, if_pos h2]; decide
def own_run (cs : List Int32) : Nat → Nat → Nat
  | 0, i => i
  | q + 1, i => if f11_0 (cs.getD i 0) = 0 then i else own_run cs q (i + 1)
theorem own_run_yes {cs : List Int32} {q i : Nat} (h : ¬ f11_0 (cs.getD i 0) = 0) : own_run cs (q + 1) i = own_run cs q (i + 1) := by simp only [own_run]; rw [if_neg h]
theorem own_run_no {cs : List Int32} {q i : Nat} (h : f11_0 (cs.getD i 0) = 0) : own_run cs (q + 1) i = i := by simp only [own_run]; rw [if_pos h]
theorem own_run_ge (cs : List Int32) : ∀ (q i : Nat), i ≤ own_run cs q i ∧ own_run cs q i ≤ i + q
  | 0, i => ⟨Nat.le_refl _, Nat.le_refl _⟩
  | q + 1, i => by
    have ih := own_run_ge cs q (i + 1)
    by_cases h : f11_0 (cs.getD i 0) = 0
    · rw [own_run_no h]; omega
    · rw [own_run_yes h]; omega
def own_end (cs : List Int32) (pN : Nat) : Nat := own_run cs (5 - pN) (pN + 1)
def own_cnt (cs : List Int32) (pN : Nat) : Nat := if pN + 1 < 6 ∧ cs.getD pN 0 = 10 then (if own_end cs pN < 6 ∧ cs.getD (own_end cs pN) 0 = 60 then own_end cs pN - pN else 0) else 0
def own_col (cs : List Int32) (pN : Nat) (cl : Int32) : Int32 := if own_cnt cs pN = 0 then cl else Int32.ofNat (own_cnt cs pN)
def own_ln (cs : List Int32) (pN : Nat) (ln : Int32) : Int32 := if own_cnt cs pN = 0 then ln else ln + 1
theorem own_cnt0 {cs : List Int32} {pN : Nat} (h : ¬ (pN + 1 < 6 ∧ cs.getD pN 0 = 10)) : own_cnt cs pN = 0 := if_neg h
theorem own_cnt1 {cs : List Int32} {pN : Nat} (h : pN + 1 < 6 ∧ cs.getD pN 0 = 10) (h2 : ¬ (own_end cs pN < 6 ∧ cs.getD (own_end cs pN) 0 = 60)) : own_cnt cs pN = 0 := by unfold own_cnt; rw [if_pos h, if_neg h2]
theorem own_cnt2 {cs : List Int32} {pN : Nat} (h : pN + 1 < 6 ∧ cs.getD pN 0 = 10) (h2 : own_end cs pN < 6 ∧ cs.getD (own_end cs pN) 0 = 60) : own_cnt cs pN = own_end cs pN - pN := by unfold own_cnt; rw [if_pos h, if_pos h2]
theorem own_pend {cs : List Int32} {pN : Nat} {b : Int32} (hpN : pN < 6) (h : b = (if Int32.ofNat (pN + 1) < (6 : Int32) then (if (cs.getD pN 0) = (10 : Int32) then (1 : Int32) else (0 : Int32)) else (0 : Int32))) : (b = 1 ∧ (pN + 1 < 6 ∧ cs.getD pN 0 = 10)) ∨ (b = 0 ∧ ¬ (pN + 1 < 6 ∧ cs.getD pN 0 = 10)) := by
  by_cases h1 : Int32.ofNat (pN + 1) < (6 : Int32)
  · rw [if_pos h1] at h
    by_cases h2 : cs.getD pN 0 = 10
    · rw [if_pos h2] at h
      exact Or.inl ⟨h, own_lt6' h1 (by omega), h2⟩
    · rw [if_neg h2] at h
      exact Or.inr ⟨h, fun q => h2 q.2⟩
  · rw [if_neg h1] at h
    exact Or.inr ⟨h, fun q => h1 (own_is6 q.1)⟩
theorem own_pos6 {n : Nat} (h : 0 < n) (h2 : n ≤ 6) : (0 : Int32) < Int32.ofNat n := by
  rw [Int32.lt_iff_toInt_lt, own_ti (by omega), show (0 : Int32).toInt = 0 from rfl]
  omega
def own_it (cs : List Int32) : Nat → Nat → Nat
  | 0, i => i
  | n + 1, i => own_it cs n (own_adv cs i)
theorem own_it_fix {cs : List Int32} {i : Nat} (h : own_adv cs i = i) : ∀ n, own_it cs n i = i
  | 0 => rfl
  | n + 1 => by show own_it cs n (own_adv cs i) = i; rw [h]; exact own_it_fix h n
theorem own_it_run (cs : List Int32) : ∀ (n q i : Nat), i + q = 6 → q ≤ n → own_it cs n i = own_run cs q i
  | n, 0, i, h1, h2 => own_it_fix (own_adv_out (by omega)) n
  | 0, q + 1, i, h1, h2 => absurd h2 (by omega)
  | n + 1, q + 1, i, h1, h2 => by
    by_cases h : f11_0 (cs.getD i 0) = 0
    · rw [own_run_no h, own_it_fix (own_adv_no h)]
    · rw [own_run_yes h]
      show own_it cs n (own_adv cs i) = _
      rw [own_adv_yes (by omega) h]
      exact own_it_run cs n q (i + 1) (by omega) (by omega)
theorem own_a5 {cs : List Int32} {pN : Nat} (h : pN < 6) : own_adv cs (own_adv cs (own_adv cs (own_adv cs (own_adv cs (pN + 1))))) = own_end cs pN := own_it_run cs 5 (5 - pN) (pN + 1) (by omega) (by omega)
theorem own_end_b {cs : List Int32} {pN : Nat} (h : pN < 6) : pN + 1 ≤ own_end cs pN ∧ own_end cs pN ≤ 6 := by
  have := own_run_ge cs (5 - pN) (pN + 1)
  unfold own_end
  omega
theorem own_posb {cs : List Int32} {pN : Nat} (h : pN < 6) : pN + own_cnt cs pN < 6 := by
  have b := own_end_b (cs := cs) h
  unfold own_cnt
  repeat' split
  all_goals omega
theorem own_again {cs : List Int32} {pN : Nat} (h : pN < 6) : own_cnt cs (pN + own_cnt cs pN) = 0 := by
  have b := own_end_b (cs := cs) h
  by_cases h1 : pN + 1 < 6 ∧ cs.getD pN 0 = 10
  · by_cases h2 : own_end cs pN < 6 ∧ cs.getD (own_end cs pN) 0 = 60
    · rw [own_cnt2 h1 h2, show pN + (own_end cs pN - pN) = own_end cs pN by omega]
      refine own_cnt0 fun q => ?_
      have e := h2.2.symm.trans q.2
      exact absurd e (by decide)
    · have e := own_cnt1 h1 h2
      rw [e]
      exact e
  · have e := own_cnt0 h1
    rw [e]
    exact e
theorem own_exp {cs : List Int32} {pN i5 : Nat} {b : Int32} (h : pN < 6) (h5 : i5 = own_end cs pN) (hb : b = (if ((Int32.ofNat pN) + (1 : Int32)) < (6 : Int32) then (if (cs.getD pN 0) = (10 : Int32) then (if (Int32.ofNat i5) < (6 : Int32) then (if (cs.getD i5 0) = (60 : Int32) then ((Int32.ofNat i5) - (Int32.ofNat pN)) else (0 : Int32)) else (0 : Int32)) else (0 : Int32)) else (0 : Int32))) : b = Int32.ofNat (own_cnt cs pN) := by
  have bb := own_end_b (cs := cs) h
  rw [own_inc, h5] at hb
  rw [hb]
  by_cases h1 : pN + 1 < 6
  · rw [if_pos (own_is6 h1)]
    by_cases h2 : cs.getD pN 0 = 10
    · rw [if_pos h2]
      by_cases h3 : own_end cs pN < 6
      · rw [if_pos (own_is6 h3)]
        by_cases h4 : cs.getD (own_end cs pN) 0 = 60
        · rw [if_pos h4, own_cnt2 ⟨h1, h2⟩ ⟨h3, h4⟩, own_subN (by omega) (by omega)]
        · rw [if_neg h4, own_cnt1 ⟨h1, h2⟩ (fun q => h4 q.2)]; rfl
      · rw [if_neg (own_no6 h3 (by omega)), own_cnt1 ⟨h1, h2⟩ (fun q => h3 q.1)]; rfl
    · rw [if_neg h2, own_cnt0 (fun q => h2 q.2)]; rfl
  · rw [if_neg (own_no6 h1 (by omega)), own_cnt0 (fun q => h1 q.1)]; rfl
theorem own_p (p2 pv : Int32) (h : pv = ((p2 &&& (2147483647 : Int32)) % (6 : Int32))) : ∃ n : Nat, pv = Int32.ofNat n ∧ n < 6 := by
  have q := own_j6 p2
  rw [← h, Int32.lt_iff_toInt_lt, Int32.lt_iff_toInt_lt, show (0 : Int32).toInt = 0 from rfl, show (6 : Int32).toInt = 6 from rfl] at q
  obtain ⟨n, e, hn⟩ := own_nat (b := 5) (v := pv) (by omega) (by omega)
  exact ⟨n, e, by omega⟩

abbrev own_r10 : Room := { frames := 1, cells := 0, slots := 0, locals := 12 }
theorem d10_0 : decode method_5_code 0 = .ok (.iload_n 1, 1) := by decide +kernel
theorem d10_1 : decode method_5_code 1 = .ok (.bipush 6, 2) := by decide +kernel
theorem d10_3 : decode method_5_code 3 = .ok (.if_icmp .ge 18, 3) := by decide +kernel
theorem d10_6 : decode method_5_code 6 = .ok (.aload_n 0, 1) := by decide +kernel
theorem d10_7 : decode method_5_code 7 = .ok (.iload_n 1, 1) := by decide +kernel
theorem d10_8 : decode method_5_code 8 = .ok (.caload, 1) := by decide +kernel
theorem d10_9 : decode method_5_code 9 = .ok (.invokestatic 42, 3) := by decide +kernel
theorem pd_1 : parseMethodDescriptor "(C)Z" = some ⟨[.char], some .boolean⟩ := by decide +kernel
theorem d10_12 : decode method_5_code 12 = .ok (.ifCond .eq 9, 3) := by decide +kernel
theorem d10_21 : decode method_5_code 21 = .ok (.iload_n 1, 1) := by decide +kernel
theorem d10_22 : decode method_5_code 22 = .ok (.ireturn, 1) := by decide +kernel
theorem d10_15 : decode method_5_code 15 = .ok (.iload_n 1, 1) := by decide +kernel
theorem d10_16 : decode method_5_code 16 = .ok (.iconst 1, 1) := by decide +kernel
theorem d10_17 : decode method_5_code 17 = .ok (.iadd, 1) := by decide +kernel
theorem d10_18 : decode method_5_code 18 = .ok (.goto 4, 3) := by decide +kernel
theorem ef_10 (m : MethodId) (r0 : Addr) (p1 : Int32) : entryFrame m #[(.ref r0), (.int p1)] 2 = mkF m 0 #[.val (.ref r0), .val (.int p1)] [] := by first | (simp [entryFrame, mkF, argsToLocals, Value.category]; done) | rfl
set_option maxRecDepth 65536 in
set_option maxHeartbeats 40000000 in
theorem rm10 (l : Launch) (Z : State) (a0 : Array Value) (hw : ∀ d ∈ tables_1, d.before a0 Z = true) (r0 : Addr) (p1 : Int32) (i : Nat) (k : ClassId) (nn : Int32) (cs : List Int32) (h0 : Heap) (n0 : Nat) (V0 : Arv Z h0 r0 k .char nn (cs.map Value.int) (.int 0)) (hnn : nn = 6) (hp : p1 = Int32.ofNat i) (hi : i ≤ 6) : own_Con [] l Z (⟨"com/example/virta/virta/InputSkipIndentationPinLaw", "adv", "([CI)I"⟩ : MethodName) method_5_code 2 (some .int) own_r10 n0 #[(.ref r0), (.int p1)] h0 (own_P (.int (Int32.ofNat (own_adv cs i))) h0) := by
  refine own_body (plainFor_of_name (by first | (simp [plainName, overriddenIn]; done) | decide +kernel)) (fun m => mkF m 0 #[.val (.ref r0), .val (.int p1)] []) (fun m => ef_10 m r0 p1) ?_
  intro p e s m below meth c s₁ hx hby hml hown hnm hZ hret hlk X0 e0 N0
  subst hp
  refine own_go (T' := s₁) (g' := (mkF m 3 #[.val (.ref r0), .val (.int (Int32.ofNat i))] [(.int (6 : Int32)), (.int (Int32.ofNat i))])) (fun t k => ?_) ?_
  · show Steps p.tables e below (s₁.setTop (mkF m 0 #[.val (.ref r0), .val (.int (Int32.ofNat i))] [])) t
    refine XS.iloadN X0.here hx rfl (hb hby d10_0) rfl ?_
    show Steps p.tables e below (s₁.setTop (mkF m 1 #[.val (.ref r0), .val (.int (Int32.ofNat i))] [(.int (Int32.ofNat i))])) _
    refine XS.bipush X0.here hx rfl (hb hby d10_1) ?_
    show Steps p.tables e below (s₁.setTop (mkF m 3 #[.val (.ref r0), .val (.int (Int32.ofNat i))] [(.int (6 : Int32)), (.int (Int32.ofNat i))])) _
    exact k
  by_cases hc3_1 : (Int32.ofNat i) < (6 : Int32)
  · refine own_go (T' := s₁) (g' := (mkF m 6 #[.val (.ref r0), .val (.int (Int32.ofNat i))] [])) (fun t k => ?_) ?_
    · refine XS.icmpNo X0.here hx rfl (hb hby d10_3) rfl (tlt hc3_1).2.1 ?_
      exact k
    refine own_go (T' := s₁) (g' := (mkF m 9 #[.val (.ref r0), .val (.int (Int32.ofNat i))] [(.int (cs.getD i 0))])) (fun t k => ?_) ?_
    · show Steps p.tables e below (s₁.setTop (mkF m 6 #[.val (.ref r0), .val (.int (Int32.ofNat i))] [])) t
      refine XS.aloadN X0.here hx rfl (hb hby d10_6) rfl rfl ?_
      show Steps p.tables e below (s₁.setTop (mkF m 7 #[.val (.ref r0), .val (.int (Int32.ofNat i))] [(.ref r0)])) _
      refine XS.iloadN X0.here hx rfl (hb hby d10_7) rfl ?_
      show Steps p.tables e below (s₁.setTop (mkF m 8 #[.val (.ref r0), .val (.int (Int32.ofNat i))] [(.int (Int32.ofNat i)), (.ref r0)])) _
      refine own_ldC X0 hx hZ e0 V0 (j := (Int32.ofNat i)) (own_ix hnn (own_lt6' hc3_1 hi)) (v := (.int (cs.getD i 0))) (own_gd cs (own_lt6' hc3_1 hi)) (g := (mkF m 8 #[.val (.ref r0), .val (.int (Int32.ofNat i))] [(.int (Int32.ofNat i)), (.ref r0)])) rfl rfl (hb hby d10_8) _ ?_
      show Steps p.tables e below (s₁.setTop (mkF m 9 #[.val (.ref r0), .val (.int (Int32.ofNat i))] [(.int (cs.getD i 0))])) _
      exact k
    obtain ⟨_, T2, L2, X2, N2, ⟨rfl, e2⟩, st2⟩ := own_callS X0 hx hZ hown (hw _ (List.mem_of_getElem? (i := 79) rfl)) (hw _ (List.mem_of_getElem? (i := 80) rfl)) (hw _ (List.mem_of_getElem? (i := 3) rfl)) (hw _ (List.mem_of_getElem? (i := 81) rfl)) (by decide) (argsL := [(.int (cs.getD i 0))]) (rest := []) (rm11 l Z a0 hw (cs.getD i 0) h0 n0) (W := 0) (by decide) (by decide) (g := (mkF m 9 #[.val (.ref r0), .val (.int (Int32.ofNat i))] [(.int (cs.getD i 0))])) rfl (by rw [hml]; rfl) pd_1 rfl rfl (by show 2 * 0 + _ ≤ _; exact Nat.le_of_eq rfl) (hb hby d10_9) e0 (by decide) (by decide) N0
    refine own_go (T' := T2) (g' := (mkF m 12 #[.val (.ref r0), .val (.int (Int32.ofNat i))] [(.int (f11_0 (cs.getD i 0)))])) st2 ?_
    by_cases hc12_3 : (f11_0 (cs.getD i 0)) = (0 : Int32)
    · refine own_go (T' := T2) (g' := (mkF m 21 #[.val (.ref r0), .val (.int (Int32.ofNat i))] [])) (fun t k => ?_) ?_
      · refine XS.ifYes X2.here hx rfl (pc0 := 12) (pc' := 21) rfl (hb hby d10_12) rfl ((if0 _ _).trans (teq hc12_3).1) (by decide) (by decide) ?_
        exact k
      refine own_go (T' := T2) (g' := (mkF m 22 #[.val (.ref r0), .val (.int (Int32.ofNat i))] [(.int (Int32.ofNat i))])) (fun t k => ?_) ?_
      · show Steps p.tables e below (T2.setTop (mkF m 21 #[.val (.ref r0), .val (.int (Int32.ofNat i))] [])) t
        refine XS.iloadN X2.here hx rfl (hb hby d10_21) rfl ?_
        show Steps p.tables e below (T2.setTop (mkF m 22 #[.val (.ref r0), .val (.int (Int32.ofNat i))] [(.int (Int32.ofNat i))])) _
        exact k
      exact own_retI X2 hx hlk hret (hb hby d10_22) (by decide) (by decide) N2 ⟨by rw [own_adv_no hc12_3], e2⟩
    · refine own_go (T' := T2) (g' := (mkF m 15 #[.val (.ref r0), .val (.int (Int32.ofNat i))] [])) (fun t k => ?_) ?_
      · refine XS.ifNo X2.here hx rfl (hb hby d10_12) rfl ((if0 _ _).trans (feq hc12_3).1) ?_
        exact k
      refine own_go (T' := T2) (g' := (mkF m 22 #[.val (.ref r0), .val (.int (Int32.ofNat i))] [(.int ((Int32.ofNat i) + (1 : Int32)))])) (fun t k => ?_) ?_
      · show Steps p.tables e below (T2.setTop (mkF m 15 #[.val (.ref r0), .val (.int (Int32.ofNat i))] [])) t
        refine XS.iloadN X2.here hx rfl (hb hby d10_15) rfl ?_
        show Steps p.tables e below (T2.setTop (mkF m 16 #[.val (.ref r0), .val (.int (Int32.ofNat i))] [(.int (Int32.ofNat i))])) _
        refine XS.iconst X2.here hx rfl (hb hby d10_16) ?_
        show Steps p.tables e below (T2.setTop (mkF m 17 #[.val (.ref r0), .val (.int (Int32.ofNat i))] [(.int (1 : Int32)), (.int (Int32.ofNat i))])) _
        refine XS.iadd X2.here hx rfl (hb hby d10_17) rfl ?_
        show Steps p.tables e below (T2.setTop (mkF m 18 #[.val (.ref r0), .val (.int (Int32.ofNat i))] [(.int ((Int32.ofNat i) + (1 : Int32)))])) _
        refine XS.goto X2.here hx rfl (pc0 := 18) (pc' := 22) rfl (hb hby d10_18) (by decide) (by decide) ?_
        show Steps p.tables e below (T2.setTop (mkF m 22 #[.val (.ref r0), .val (.int (Int32.ofNat i))] [(.int ((Int32.ofNat i) + (1 : Int32)))])) _
        exact k
      exact own_retI X2 hx hlk hret (hb hby d10_22) (by decide) (by decide) N2 ⟨by rw [own_adv_yes (own_lt6' hc3_1 hi) hc12_3, ← own_inc], e2⟩
  · refine own_go (T' := s₁) (g' := (mkF m 21 #[.val (.ref r0), .val (.int (Int32.ofNat i))] [])) (fun t k => ?_) ?_
    · refine XS.icmpYes X0.here hx rfl (pc0 := 3) (pc' := 21) rfl (hb hby d10_3) rfl (flt hc3_1).2.1 (by decide) (by decide) ?_
      exact k
    refine own_go (T' := s₁) (g' := (mkF m 22 #[.val (.ref r0), .val (.int (Int32.ofNat i))] [(.int (Int32.ofNat i))])) (fun t k => ?_) ?_
    · show Steps p.tables e below (s₁.setTop (mkF m 21 #[.val (.ref r0), .val (.int (Int32.ofNat i))] [])) t
      refine XS.iloadN X0.here hx rfl (hb hby d10_21) rfl ?_
      show Steps p.tables e below (s₁.setTop (mkF m 22 #[.val (.ref r0), .val (.int (Int32.ofNat i))] [(.int (Int32.ofNat i))])) _
      exact k
    exact own_retI X0 hx hlk hret (hb hby d10_22) (by decide) (by decide) N0 ⟨by rw [own_adv_out (own_lt6 hc3_1 hi)], e0⟩
abbrev own_r6 : Room := { frames := 0, cells := 0, slots := 0, locals := 0 }
theorem d6_0 : decode prog_42_method_32_code 0 = .ok (.aload_n 0, 1) := by decide +kernel
theorem d6_1 : decode prog_42_method_32_code 1 = .ok (.getfield 78, 3) := by decide +kernel
theorem d6_4 : decode prog_42_method_32_code 4 = .ok (.iconst 1, 1) := by decide +kernel
theorem d6_5 : decode prog_42_method_32_code 5 = .ok (.iadd, 1) := by decide +kernel
theorem d6_6 : decode prog_42_method_32_code 6 = .ok (.istore_n 1, 1) := by decide +kernel
theorem d6_7 : decode prog_42_method_32_code 7 = .ok (.iload_n 1, 1) := by decide +kernel
theorem d6_8 : decode prog_42_method_32_code 8 = .ok (.aload_n 0, 1) := by decide +kernel
theorem d6_9 : decode prog_42_method_32_code 9 = .ok (.getfield 49, 3) := by decide +kernel
theorem d6_12 : decode prog_42_method_32_code 12 = .ok (.if_icmp .ge 21, 3) := by decide +kernel
theorem d6_15 : decode prog_42_method_32_code 15 = .ok (.aload_n 0, 1) := by decide +kernel
theorem d6_16 : decode prog_42_method_32_code 16 = .ok (.getfield 24, 3) := by decide +kernel
theorem d6_19 : decode prog_42_method_32_code 19 = .ok (.aload_n 0, 1) := by decide +kernel
theorem d6_20 : decode prog_42_method_32_code 20 = .ok (.getfield 78, 3) := by decide +kernel
theorem d6_23 : decode prog_42_method_32_code 23 = .ok (.caload, 1) := by decide +kernel
theorem d6_24 : decode prog_42_method_32_code 24 = .ok (.bipush 10, 2) := by decide +kernel
theorem d6_26 : decode prog_42_method_32_code 26 = .ok (.if_icmp .ne 7, 3) := by decide +kernel
theorem d6_29 : decode prog_42_method_32_code 29 = .ok (.iconst 1, 1) := by decide +kernel
theorem d6_30 : decode prog_42_method_32_code 30 = .ok (.goto 4, 3) := by decide +kernel
theorem d6_33 : decode prog_42_method_32_code 33 = .ok (.iconst 0, 1) := by decide +kernel
theorem d6_34 : decode prog_42_method_32_code 34 = .ok (.istore_n 2, 1) := by decide +kernel
theorem d6_35 : decode prog_42_method_32_code 35 = .ok (.iload_n 2, 1) := by decide +kernel
theorem d6_36 : decode prog_42_method_32_code 36 = .ok (.ifCond .eq 39, 3) := by decide +kernel
theorem d6_39 : decode prog_42_method_32_code 39 = .ok (.iload_n 1, 1) := by decide +kernel
theorem d6_40 : decode prog_42_method_32_code 40 = .ok (.aload_n 0, 1) := by decide +kernel
theorem d6_41 : decode prog_42_method_32_code 41 = .ok (.getfield 49, 3) := by decide +kernel
theorem d6_44 : decode prog_42_method_32_code 44 = .ok (.if_icmp .ge 31, 3) := by decide +kernel
theorem d6_47 : decode prog_42_method_32_code 47 = .ok (.aload_n 0, 1) := by decide +kernel
theorem d6_48 : decode prog_42_method_32_code 48 = .ok (.getfield 24, 3) := by decide +kernel
theorem d6_51 : decode prog_42_method_32_code 51 = .ok (.iload_n 1, 1) := by decide +kernel
theorem d6_52 : decode prog_42_method_32_code 52 = .ok (.caload, 1) := by decide +kernel
theorem d6_53 : decode prog_42_method_32_code 53 = .ok (.bipush 32, 2) := by decide +kernel
theorem d6_55 : decode prog_42_method_32_code 55 = .ok (.if_icmp .eq 14, 3) := by decide +kernel
theorem d6_69 : decode prog_42_method_32_code 69 = .ok (.iinc 1 1, 3) := by decide +kernel
theorem d6_72 : decode prog_42_method_32_code 72 = .ok (.goto (-37), 3) := by decide +kernel
theorem d6_58 : decode prog_42_method_32_code 58 = .ok (.aload_n 0, 1) := by decide +kernel
theorem d6_59 : decode prog_42_method_32_code 59 = .ok (.getfield 24, 3) := by decide +kernel
theorem d6_62 : decode prog_42_method_32_code 62 = .ok (.iload_n 1, 1) := by decide +kernel
theorem d6_63 : decode prog_42_method_32_code 63 = .ok (.caload, 1) := by decide +kernel
theorem d6_64 : decode prog_42_method_32_code 64 = .ok (.bipush 9, 2) := by decide +kernel
theorem d6_66 : decode prog_42_method_32_code 66 = .ok (.if_icmp .ne 9, 3) := by decide +kernel
theorem d6_75 : decode prog_42_method_32_code 75 = .ok (.iload_n 2, 1) := by decide +kernel
theorem d6_76 : decode prog_42_method_32_code 76 = .ok (.ifCond .eq 31, 3) := by decide +kernel
theorem d6_79 : decode prog_42_method_32_code 79 = .ok (.iload_n 1, 1) := by decide +kernel
theorem d6_80 : decode prog_42_method_32_code 80 = .ok (.aload_n 0, 1) := by decide +kernel
theorem d6_81 : decode prog_42_method_32_code 81 = .ok (.getfield 49, 3) := by decide +kernel
theorem d6_84 : decode prog_42_method_32_code 84 = .ok (.if_icmp .ge 23, 3) := by decide +kernel
theorem d6_87 : decode prog_42_method_32_code 87 = .ok (.aload_n 0, 1) := by decide +kernel
theorem d6_88 : decode prog_42_method_32_code 88 = .ok (.getfield 24, 3) := by decide +kernel
theorem d6_91 : decode prog_42_method_32_code 91 = .ok (.iload_n 1, 1) := by decide +kernel
theorem d6_92 : decode prog_42_method_32_code 92 = .ok (.caload, 1) := by decide +kernel
theorem d6_93 : decode prog_42_method_32_code 93 = .ok (.bipush 60, 2) := by decide +kernel
theorem d6_95 : decode prog_42_method_32_code 95 = .ok (.if_icmp .ne 12, 3) := by decide +kernel
theorem d6_98 : decode prog_42_method_32_code 98 = .ok (.iload_n 1, 1) := by decide +kernel
theorem d6_99 : decode prog_42_method_32_code 99 = .ok (.aload_n 0, 1) := by decide +kernel
theorem d6_100 : decode prog_42_method_32_code 100 = .ok (.getfield 78, 3) := by decide +kernel
theorem d6_103 : decode prog_42_method_32_code 103 = .ok (.isub, 1) := by decide +kernel
theorem d6_104 : decode prog_42_method_32_code 104 = .ok (.goto 4, 3) := by decide +kernel
theorem d6_108 : decode prog_42_method_32_code 108 = .ok (.istore_n 3, 1) := by decide +kernel
theorem d6_109 : decode prog_42_method_32_code 109 = .ok (.iload_n 3, 1) := by decide +kernel
theorem d6_110 : decode prog_42_method_32_code 110 = .ok (.ifCond .le 23, 3) := by decide +kernel
theorem d6_113 : decode prog_42_method_32_code 113 = .ok (.aload_n 0, 1) := by decide +kernel
theorem d6_114 : decode prog_42_method_32_code 114 = .ok (.dup, 1) := by decide +kernel
theorem d6_115 : decode prog_42_method_32_code 115 = .ok (.getfield 7, 3) := by decide +kernel
theorem d6_118 : decode prog_42_method_32_code 118 = .ok (.iconst 1, 1) := by decide +kernel
theorem d6_119 : decode prog_42_method_32_code 119 = .ok (.iadd, 1) := by decide +kernel
theorem d6_120 : decode prog_42_method_32_code 120 = .ok (.putfield 7, 3) := by decide +kernel
theorem d6_123 : decode prog_42_method_32_code 123 = .ok (.aload_n 0, 1) := by decide +kernel
theorem d6_124 : decode prog_42_method_32_code 124 = .ok (.iload_n 3, 1) := by decide +kernel
theorem d6_125 : decode prog_42_method_32_code 125 = .ok (.putfield 13, 3) := by decide +kernel
theorem d6_128 : decode prog_42_method_32_code 128 = .ok (.aload_n 0, 1) := by decide +kernel
theorem d6_129 : decode prog_42_method_32_code 129 = .ok (.iload_n 1, 1) := by decide +kernel
theorem d6_130 : decode prog_42_method_32_code 130 = .ok (.putfield 78, 3) := by decide +kernel
theorem d6_133 : decode prog_42_method_32_code 133 = .ok (.iload_n 3, 1) := by decide +kernel
theorem d6_134 : decode prog_42_method_32_code 134 = .ok (.ireturn, 1) := by decide +kernel
theorem d6_107 : decode prog_42_method_32_code 107 = .ok (.iconst 0, 1) := by decide +kernel
theorem ef_6 (m : MethodId) (a : Addr) : entryFrame m #[(.ref a)] 4 = mkF m 0 #[.val (.ref a), .unset, .unset, .unset] [] := by first | (simp [entryFrame, mkF, argsToLocals, Value.category]; done) | rfl
set_option maxRecDepth 65536 in
set_option maxHeartbeats 40000000 in
theorem rm6 (l : Launch) (Z : State) (a0 : Array Value) (hw : ∀ d ∈ tables_1, d.before a0 Z = true) (a : Addr) (ps cl ln : Int32) (rb : Addr) (ck : Int32) (k : ClassId) (nn : Int32) (cs : List Int32) (pN : Nat) (h0 : Heap) (n0 : Nat) (Z0 : n0 ≤ h0.size) (ga_a : n0 ≤ a) (I0 : own_In Z h0 a ps cl ln rb ck) (V0 : Arv Z h0 rb k .char nn (cs.map Value.int) (.int 0)) (lt_rb : rb < a) (hnn : nn = 6) (hps : ps = Int32.ofNat pN) (hck : ck = 6) (hpN : pN < 6) : own_Con [] l Z (⟨"com/example/virta/virta/Input", "skipIndentation", "()I"⟩ : MethodName) prog_42_method_32_code 4 (some .int) own_r6 n0 #[(.ref a)] h0 (own_Qi Z (Int32.ofNat (own_cnt cs pN)) a (Int32.ofNat (pN + own_cnt cs pN)) (own_col cs pN cl) (own_ln cs pN ln) rb ck h0) := by
  refine own_body (plainFor_of_name (by first | (simp [plainName, overriddenIn]; done) | decide +kernel)) (fun m => mkF m 0 #[.val (.ref a), .unset, .unset, .unset] []) (fun m => ef_6 m a) ?_
  intro p e s m below meth c s₁ hx hby hml hown hnm hZ hret hlk X0 e0 N0
  have K0 := Keep.refl h0 [a]
  obtain ⟨I0e, I0p, I0c, I0l, I0b, I0h⟩ := I0
  subst hps hck
  refine own_go (T' := s₁) (g' := (mkF m 1 #[.val (.ref a), .unset, .unset, .unset] [(.ref a)])) (fun t k => ?_) ?_
  · show Steps p.tables e below (s₁.setTop (mkF m 0 #[.val (.ref a), .unset, .unset, .unset] [])) t
    refine XS.aloadN X0.here hx rfl (hb hby d6_0) rfl rfl ?_
    show Steps p.tables e below (s₁.setTop (mkF m 1 #[.val (.ref a), .unset, .unset, .unset] [(.ref a)])) _
    exact k
  obtain ⟨T1, X1, e1, st1⟩ := getF X0 hx hZ hown (host := "") (Or.inl (hw _ (List.mem_of_getElem? (i := 54) rfl))) Via.refl e0 I0p (g := (mkF m 1 #[.val (.ref a), .unset, .unset, .unset] [(.ref a)])) rfl rfl (hb hby d6_1)
  refine own_go (T' := T1) (g' := (mkF m 4 #[.val (.ref a), .unset, .unset, .unset] [(.int (Int32.ofNat pN))])) st1 ?_
  refine own_go (T' := T1) (g' := (mkF m 7 #[.val (.ref a), .val (.int ((Int32.ofNat pN) + (1 : Int32))), .unset, .unset] [])) (fun t k => ?_) ?_
  · show Steps p.tables e below (T1.setTop (mkF m 4 #[.val (.ref a), .unset, .unset, .unset] [(.int (Int32.ofNat pN))])) t
    refine XS.iconst X1.here hx rfl (hb hby d6_4) ?_
    show Steps p.tables e below (T1.setTop (mkF m 5 #[.val (.ref a), .unset, .unset, .unset] [(.int (1 : Int32)), (.int (Int32.ofNat pN))])) _
    refine XS.iadd X1.here hx rfl (hb hby d6_5) rfl ?_
    show Steps p.tables e below (T1.setTop (mkF m 6 #[.val (.ref a), .unset, .unset, .unset] [(.int ((Int32.ofNat pN) + (1 : Int32)))])) _
    refine XS.istoreN X1.here hx rfl (hb hby d6_6) rfl (l' := #[.val (.ref a), .val (.int ((Int32.ofNat pN) + (1 : Int32))), .unset, .unset]) rfl ?_
    show Steps p.tables e below (T1.setTop (mkF m 7 #[.val (.ref a), .val (.int ((Int32.ofNat pN) + (1 : Int32))), .unset, .unset] [])) _
    exact k
  rw [own_inc]
  refine own_go (T' := T1) (g' := (mkF m 9 #[.val (.ref a), .val (.int (Int32.ofNat (pN + 1))), .unset, .unset] [(.ref a), (.int (Int32.ofNat (pN + 1)))])) (fun t k => ?_) ?_
  · show Steps p.tables e below (T1.setTop (mkF m 7 #[.val (.ref a), .val (.int (Int32.ofNat (pN + 1))), .unset, .unset] [])) t
    refine XS.iloadN X1.here hx rfl (hb hby d6_7) rfl ?_
    show Steps p.tables e below (T1.setTop (mkF m 8 #[.val (.ref a), .val (.int (Int32.ofNat (pN + 1))), .unset, .unset] [(.int (Int32.ofNat (pN + 1)))])) _
    refine XS.aloadN X1.here hx rfl (hb hby d6_8) rfl rfl ?_
    show Steps p.tables e below (T1.setTop (mkF m 9 #[.val (.ref a), .val (.int (Int32.ofNat (pN + 1))), .unset, .unset] [(.ref a), (.int (Int32.ofNat (pN + 1)))])) _
    exact k
  obtain ⟨T2, X2, e2, st2⟩ := getF X1 hx hZ hown (host := "") (Or.inl (hw _ (List.mem_of_getElem? (i := 36) rfl))) Via.refl e1 I0h (g := (mkF m 9 #[.val (.ref a), .val (.int (Int32.ofNat (pN + 1))), .unset, .unset] [(.ref a), (.int (Int32.ofNat (pN + 1)))])) rfl rfl (hb hby d6_9)
  refine own_go (T' := T2) (g' := (mkF m 12 #[.val (.ref a), .val (.int (Int32.ofNat (pN + 1))), .unset, .unset] [(.int (6 : Int32)), (.int (Int32.ofNat (pN + 1)))])) st2 ?_
  suffices w7 : ∀ (T7 : State) (L7 : List Loc) (X7 : Stand p l e own_r6 s m #[(.ref a)] below meth c T7 L7 0 0) (e7 : T7.heap = h0) (N7 : Fr n0 L7) (b7_s0 : Int32) (h_b7_s0 : b7_s0 = (if (Int32.ofNat (pN + 1)) < (6 : Int32) then (if (cs.getD pN 0) = (10 : Int32) then (1 : Int32) else (0 : Int32)) else (0 : Int32))), own_Ends p e below s n0 own_r6.cells own_r6.slots T7 (mkF m 34 #[.val (.ref a), .val (.int (Int32.ofNat (pN + 1))), .unset, .unset] [(.int b7_s0)]) (own_Qi Z (Int32.ofNat (own_cnt cs pN)) a (Int32.ofNat (pN + own_cnt cs pN)) (own_col cs pN cl) (own_ln cs pN ln) rb (6 : Int32) h0) by
    by_cases hm12_3 : (Int32.ofNat (pN + 1)) < (6 : Int32)
    · refine own_go (T' := T2) (g' := (mkF m 15 #[.val (.ref a), .val (.int (Int32.ofNat (pN + 1))), .unset, .unset] [])) (fun t k => ?_) ?_
      · refine XS.icmpNo X2.here hx rfl (hb hby d6_12) rfl (tlt hm12_3).2.1 ?_
        exact k
      refine own_go (T' := T2) (g' := (mkF m 16 #[.val (.ref a), .val (.int (Int32.ofNat (pN + 1))), .unset, .unset] [(.ref a)])) (fun t k => ?_) ?_
      · show Steps p.tables e below (T2.setTop (mkF m 15 #[.val (.ref a), .val (.int (Int32.ofNat (pN + 1))), .unset, .unset] [])) t
        refine XS.aloadN X2.here hx rfl (hb hby d6_15) rfl rfl ?_
        show Steps p.tables e below (T2.setTop (mkF m 16 #[.val (.ref a), .val (.int (Int32.ofNat (pN + 1))), .unset, .unset] [(.ref a)])) _
        exact k
      obtain ⟨T4, X4, e4, st4⟩ := getF X2 hx hZ hown (host := "") (Or.inl (hw _ (List.mem_of_getElem? (i := 24) rfl))) Via.refl e2 I0b (g := (mkF m 16 #[.val (.ref a), .val (.int (Int32.ofNat (pN + 1))), .unset, .unset] [(.ref a)])) rfl rfl (hb hby d6_16)
      refine own_go (T' := T4) (g' := (mkF m 19 #[.val (.ref a), .val (.int (Int32.ofNat (pN + 1))), .unset, .unset] [(.ref rb)])) st4 ?_
      refine own_go (T' := T4) (g' := (mkF m 20 #[.val (.ref a), .val (.int (Int32.ofNat (pN + 1))), .unset, .unset] [(.ref a), (.ref rb)])) (fun t k => ?_) ?_
      · show Steps p.tables e below (T4.setTop (mkF m 19 #[.val (.ref a), .val (.int (Int32.ofNat (pN + 1))), .unset, .unset] [(.ref rb)])) t
        refine XS.aloadN X4.here hx rfl (hb hby d6_19) rfl rfl ?_
        show Steps p.tables e below (T4.setTop (mkF m 20 #[.val (.ref a), .val (.int (Int32.ofNat (pN + 1))), .unset, .unset] [(.ref a), (.ref rb)])) _
        exact k
      obtain ⟨T5, X5, e5, st5⟩ := getF X4 hx hZ hown (host := "") (Or.inl (hw _ (List.mem_of_getElem? (i := 54) rfl))) Via.refl e4 I0p (g := (mkF m 20 #[.val (.ref a), .val (.int (Int32.ofNat (pN + 1))), .unset, .unset] [(.ref a), (.ref rb)])) rfl rfl (hb hby d6_20)
      refine own_go (T' := T5) (g' := (mkF m 23 #[.val (.ref a), .val (.int (Int32.ofNat (pN + 1))), .unset, .unset] [(.int (Int32.ofNat pN)), (.ref rb)])) st5 ?_
      refine own_go (T' := T5) (g' := (mkF m 26 #[.val (.ref a), .val (.int (Int32.ofNat (pN + 1))), .unset, .unset] [(.int (10 : Int32)), (.int (cs.getD pN 0))])) (fun t k => ?_) ?_
      · show Steps p.tables e below (T5.setTop (mkF m 23 #[.val (.ref a), .val (.int (Int32.ofNat (pN + 1))), .unset, .unset] [(.int (Int32.ofNat pN)), (.ref rb)])) t
        refine own_ldC X5 hx hZ e5 V0 (j := (Int32.ofNat pN)) (own_ix hnn hpN) (v := (.int (cs.getD pN 0))) (own_gd cs hpN) (g := (mkF m 23 #[.val (.ref a), .val (.int (Int32.ofNat (pN + 1))), .unset, .unset] [(.int (Int32.ofNat pN)), (.ref rb)])) rfl rfl (hb hby d6_23) _ ?_
        show Steps p.tables e below (T5.setTop (mkF m 24 #[.val (.ref a), .val (.int (Int32.ofNat (pN + 1))), .unset, .unset] [(.int (cs.getD pN 0))])) _
        refine XS.bipush X5.here hx rfl (hb hby d6_24) ?_
        show Steps p.tables e below (T5.setTop (mkF m 26 #[.val (.ref a), .val (.int (Int32.ofNat (pN + 1))), .unset, .unset] [(.int (10 : Int32)), (.int (cs.getD pN 0))])) _
        exact k
      by_cases hm26_6 : (cs.getD pN 0) = (10 : Int32)
      · refine own_go (T' := T5) (g' := (mkF m 29 #[.val (.ref a), .val (.int (Int32.ofNat (pN + 1))), .unset, .unset] [])) (fun t k => ?_) ?_
        · refine XS.icmpNo X5.here hx rfl (hb hby d6_26) rfl (teq hm26_6).2 ?_
          exact k
        refine own_go (T' := T5) (g' := (mkF m 34 #[.val (.ref a), .val (.int (Int32.ofNat (pN + 1))), .unset, .unset] [(.int (1 : Int32))])) (fun t k => ?_) ?_
        · show Steps p.tables e below (T5.setTop (mkF m 29 #[.val (.ref a), .val (.int (Int32.ofNat (pN + 1))), .unset, .unset] [])) t
          refine XS.iconst X5.here hx rfl (hb hby d6_29) ?_
          show Steps p.tables e below (T5.setTop (mkF m 30 #[.val (.ref a), .val (.int (Int32.ofNat (pN + 1))), .unset, .unset] [(.int (1 : Int32))])) _
          refine XS.goto X5.here hx rfl (pc0 := 30) (pc' := 34) rfl (hb hby d6_30) (by decide) (by decide) ?_
          show Steps p.tables e below (T5.setTop (mkF m 34 #[.val (.ref a), .val (.int (Int32.ofNat (pN + 1))), .unset, .unset] [(.int (1 : Int32))])) _
          exact k
        exact w7 _ _ X5 e5 N0 (1 : Int32) (by rw [if_pos hm12_3, if_pos hm26_6])
      · refine own_go (T' := T5) (g' := (mkF m 33 #[.val (.ref a), .val (.int (Int32.ofNat (pN + 1))), .unset, .unset] [])) (fun t k => ?_) ?_
        · refine XS.icmpYes X5.here hx rfl (pc0 := 26) (pc' := 33) rfl (hb hby d6_26) rfl (feq hm26_6).2 (by decide) (by decide) ?_
          exact k
        refine own_go (T' := T5) (g' := (mkF m 34 #[.val (.ref a), .val (.int (Int32.ofNat (pN + 1))), .unset, .unset] [(.int (0 : Int32))])) (fun t k => ?_) ?_
        · show Steps p.tables e below (T5.setTop (mkF m 33 #[.val (.ref a), .val (.int (Int32.ofNat (pN + 1))), .unset, .unset] [])) t
          refine XS.iconst X5.here hx rfl (hb hby d6_33) ?_
          show Steps p.tables e below (T5.setTop (mkF m 34 #[.val (.ref a), .val (.int (Int32.ofNat (pN + 1))), .unset, .unset] [(.int (0 : Int32))])) _
          exact k
        exact w7 _ _ X5 e5 N0 (0 : Int32) (by rw [if_pos hm12_3, if_neg hm26_6])
    · refine own_go (T' := T2) (g' := (mkF m 33 #[.val (.ref a), .val (.int (Int32.ofNat (pN + 1))), .unset, .unset] [])) (fun t k => ?_) ?_
      · refine XS.icmpYes X2.here hx rfl (pc0 := 12) (pc' := 33) rfl (hb hby d6_12) rfl (flt hm12_3).2.1 (by decide) (by decide) ?_
        exact k
      refine own_go (T' := T2) (g' := (mkF m 34 #[.val (.ref a), .val (.int (Int32.ofNat (pN + 1))), .unset, .unset] [(.int (0 : Int32))])) (fun t k => ?_) ?_
      · show Steps p.tables e below (T2.setTop (mkF m 33 #[.val (.ref a), .val (.int (Int32.ofNat (pN + 1))), .unset, .unset] [])) t
        refine XS.iconst X2.here hx rfl (hb hby d6_33) ?_
        show Steps p.tables e below (T2.setTop (mkF m 34 #[.val (.ref a), .val (.int (Int32.ofNat (pN + 1))), .unset, .unset] [(.int (0 : Int32))])) _
        exact k
      exact w7 _ _ X2 e2 N0 (0 : Int32) (by rw [if_neg hm12_3])
  intro T7 L7 X7 e7 N7 b7_s0 h_b7_s0
  rcases own_pend hpN h_b7_s0 with ⟨rfl, hpd⟩ | ⟨rfl, hnp⟩
  · refine own_go (T' := T7) (g' := (mkF m 35 #[.val (.ref a), .val (.int (Int32.ofNat (pN + 1))), .val (.int (1 : Int32)), .unset] [])) (fun t k => ?_) ?_
    · show Steps p.tables e below (T7.setTop (mkF m 34 #[.val (.ref a), .val (.int (Int32.ofNat (pN + 1))), .unset, .unset] [(.int (1 : Int32))])) t
      refine XS.istoreN X7.here hx rfl (hb hby d6_34) rfl (l' := #[.val (.ref a), .val (.int (Int32.ofNat (pN + 1))), .val (.int (1 : Int32)), .unset]) rfl ?_
      show Steps p.tables e below (T7.setTop (mkF m 35 #[.val (.ref a), .val (.int (Int32.ofNat (pN + 1))), .val (.int (1 : Int32)), .unset] [])) _
      exact k
    suffices w8 : ∀ (T8 : State) (L8 : List Loc) (X8 : Stand p l e own_r6 s m #[(.ref a)] below meth c T8 L8 0 0) (e8 : T8.heap = h0) (N8 : Fr n0 L8), own_Ends p e below s n0 own_r6.cells own_r6.slots T8 (mkF m 75 #[.val (.ref a), .val (.int (Int32.ofNat (own_end cs pN))), .val (.int (1 : Int32)), .unset] []) (own_Qi Z (Int32.ofNat (own_cnt cs pN)) a (Int32.ofNat (pN + own_cnt cs pN)) (own_col cs pN cl) (own_ln cs pN ln) rb (6 : Int32) h0) by
      have loop : ∀ (q i : Nat) (hq : i + q = 6) (hj : own_run cs q i = own_end cs pN) (T : State) (locs : List Loc) (X : Stand p l e own_r6 s m #[(.ref a)] below meth c T locs 0 0) (eT : T.heap = h0) (N : Fr n0 locs), own_Ends p e below s n0 own_r6.cells own_r6.slots T (mkF m 35 #[.val (.ref a), .val (.int (Int32.ofNat i)), .val (.int (1 : Int32)), .unset] []) (own_Qi Z (Int32.ofNat (own_cnt cs pN)) a (Int32.ofNat (pN + own_cnt cs pN)) (own_col cs pN cl) (own_ln cs pN ln) rb (6 : Int32) h0) := by
        intro q
        induction q with
        | zero =>
          intro i hq hj T locs X eT N
          refine own_go (T' := T) (g' := (mkF m 41 #[.val (.ref a), .val (.int (Int32.ofNat i)), .val (.int (1 : Int32)), .unset] [(.ref a), (.int (Int32.ofNat i))])) (fun t k => ?_) ?_
          · show Steps p.tables e below (T.setTop (mkF m 35 #[.val (.ref a), .val (.int (Int32.ofNat i)), .val (.int (1 : Int32)), .unset] [])) t
            refine XS.iloadN X.here hx rfl (hb hby d6_35) rfl ?_
            show Steps p.tables e below (T.setTop (mkF m 36 #[.val (.ref a), .val (.int (Int32.ofNat i)), .val (.int (1 : Int32)), .unset] [(.int (1 : Int32))])) _
            refine XS.ifNo X.here hx rfl (hb hby d6_36) rfl ((if0 _ _).trans (feq (by decide)).1) ?_
            show Steps p.tables e below (T.setTop (mkF m 39 #[.val (.ref a), .val (.int (Int32.ofNat i)), .val (.int (1 : Int32)), .unset] [])) _
            refine XS.iloadN X.here hx rfl (hb hby d6_39) rfl ?_
            show Steps p.tables e below (T.setTop (mkF m 40 #[.val (.ref a), .val (.int (Int32.ofNat i)), .val (.int (1 : Int32)), .unset] [(.int (Int32.ofNat i))])) _
            refine XS.aloadN X.here hx rfl (hb hby d6_40) rfl rfl ?_
            show Steps p.tables e below (T.setTop (mkF m 41 #[.val (.ref a), .val (.int (Int32.ofNat i)), .val (.int (1 : Int32)), .unset] [(.ref a), (.int (Int32.ofNat i))])) _
            exact k
          obtain ⟨T9, X9, e9, st9⟩ := getF X hx hZ hown (host := "") (Or.inl (hw _ (List.mem_of_getElem? (i := 36) rfl))) Via.refl eT I0h (g := (mkF m 41 #[.val (.ref a), .val (.int (Int32.ofNat i)), .val (.int (1 : Int32)), .unset] [(.ref a), (.int (Int32.ofNat i))])) rfl rfl (hb hby d6_41)
          refine own_go (T' := T9) (g' := (mkF m 44 #[.val (.ref a), .val (.int (Int32.ofNat i)), .val (.int (1 : Int32)), .unset] [(.int (6 : Int32)), (.int (Int32.ofNat i))])) st9 ?_
          refine own_go (T' := T9) (g' := (mkF m 75 #[.val (.ref a), .val (.int (Int32.ofNat i)), .val (.int (1 : Int32)), .unset] [])) (fun t k => ?_) ?_
          · show Steps p.tables e below (T9.setTop (mkF m 44 #[.val (.ref a), .val (.int (Int32.ofNat i)), .val (.int (1 : Int32)), .unset] [(.int (6 : Int32)), (.int (Int32.ofNat i))])) t
            refine XS.icmpYes X9.here hx rfl (pc0 := 44) (pc' := 75) rfl (hb hby d6_44) rfl (flt (own_no6 (by omega) (by omega))).2.1 (by decide) (by decide) ?_
            show Steps p.tables e below (T9.setTop (mkF m 75 #[.val (.ref a), .val (.int (Int32.ofNat i)), .val (.int (1 : Int32)), .unset] [])) _
            exact k
          rw [show i = own_end cs pN from hj]
          exact w8 _ _ X9 e9 N
        | succ q ih =>
          intro i hq hj T locs X eT N
          refine own_go (T' := T) (g' := (mkF m 41 #[.val (.ref a), .val (.int (Int32.ofNat i)), .val (.int (1 : Int32)), .unset] [(.ref a), (.int (Int32.ofNat i))])) (fun t k => ?_) ?_
          · show Steps p.tables e below (T.setTop (mkF m 35 #[.val (.ref a), .val (.int (Int32.ofNat i)), .val (.int (1 : Int32)), .unset] [])) t
            refine XS.iloadN X.here hx rfl (hb hby d6_35) rfl ?_
            show Steps p.tables e below (T.setTop (mkF m 36 #[.val (.ref a), .val (.int (Int32.ofNat i)), .val (.int (1 : Int32)), .unset] [(.int (1 : Int32))])) _
            refine XS.ifNo X.here hx rfl (hb hby d6_36) rfl ((if0 _ _).trans (feq (by decide)).1) ?_
            show Steps p.tables e below (T.setTop (mkF m 39 #[.val (.ref a), .val (.int (Int32.ofNat i)), .val (.int (1 : Int32)), .unset] [])) _
            refine XS.iloadN X.here hx rfl (hb hby d6_39) rfl ?_
            show Steps p.tables e below (T.setTop (mkF m 40 #[.val (.ref a), .val (.int (Int32.ofNat i)), .val (.int (1 : Int32)), .unset] [(.int (Int32.ofNat i))])) _
            refine XS.aloadN X.here hx rfl (hb hby d6_40) rfl rfl ?_
            show Steps p.tables e below (T.setTop (mkF m 41 #[.val (.ref a), .val (.int (Int32.ofNat i)), .val (.int (1 : Int32)), .unset] [(.ref a), (.int (Int32.ofNat i))])) _
            exact k
          obtain ⟨T10, X10, e10, st10⟩ := getF X hx hZ hown (host := "") (Or.inl (hw _ (List.mem_of_getElem? (i := 36) rfl))) Via.refl eT I0h (g := (mkF m 41 #[.val (.ref a), .val (.int (Int32.ofNat i)), .val (.int (1 : Int32)), .unset] [(.ref a), (.int (Int32.ofNat i))])) rfl rfl (hb hby d6_41)
          refine own_go (T' := T10) (g' := (mkF m 44 #[.val (.ref a), .val (.int (Int32.ofNat i)), .val (.int (1 : Int32)), .unset] [(.int (6 : Int32)), (.int (Int32.ofNat i))])) st10 ?_
          refine own_go (T' := T10) (g' := (mkF m 48 #[.val (.ref a), .val (.int (Int32.ofNat i)), .val (.int (1 : Int32)), .unset] [(.ref a)])) (fun t k => ?_) ?_
          · show Steps p.tables e below (T10.setTop (mkF m 44 #[.val (.ref a), .val (.int (Int32.ofNat i)), .val (.int (1 : Int32)), .unset] [(.int (6 : Int32)), (.int (Int32.ofNat i))])) t
            refine XS.icmpNo X10.here hx rfl (hb hby d6_44) rfl (tlt (own_is6 (by omega))).2.1 ?_
            show Steps p.tables e below (T10.setTop (mkF m 47 #[.val (.ref a), .val (.int (Int32.ofNat i)), .val (.int (1 : Int32)), .unset] [])) _
            refine XS.aloadN X10.here hx rfl (hb hby d6_47) rfl rfl ?_
            show Steps p.tables e below (T10.setTop (mkF m 48 #[.val (.ref a), .val (.int (Int32.ofNat i)), .val (.int (1 : Int32)), .unset] [(.ref a)])) _
            exact k
          obtain ⟨T11, X11, e11, st11⟩ := getF X10 hx hZ hown (host := "") (Or.inl (hw _ (List.mem_of_getElem? (i := 24) rfl))) Via.refl e10 I0b (g := (mkF m 48 #[.val (.ref a), .val (.int (Int32.ofNat i)), .val (.int (1 : Int32)), .unset] [(.ref a)])) rfl rfl (hb hby d6_48)
          refine own_go (T' := T11) (g' := (mkF m 51 #[.val (.ref a), .val (.int (Int32.ofNat i)), .val (.int (1 : Int32)), .unset] [(.ref rb)])) st11 ?_
          refine own_go (T' := T11) (g' := (mkF m 55 #[.val (.ref a), .val (.int (Int32.ofNat i)), .val (.int (1 : Int32)), .unset] [(.int (32 : Int32)), (.int (cs.getD i 0))])) (fun t k => ?_) ?_
          · show Steps p.tables e below (T11.setTop (mkF m 51 #[.val (.ref a), .val (.int (Int32.ofNat i)), .val (.int (1 : Int32)), .unset] [(.ref rb)])) t
            refine XS.iloadN X11.here hx rfl (hb hby d6_51) rfl ?_
            show Steps p.tables e below (T11.setTop (mkF m 52 #[.val (.ref a), .val (.int (Int32.ofNat i)), .val (.int (1 : Int32)), .unset] [(.int (Int32.ofNat i)), (.ref rb)])) _
            refine own_ldC X11 hx hZ e11 V0 (j := (Int32.ofNat i)) (own_ix hnn (by omega)) (v := (.int (cs.getD i 0))) (own_gd cs (by omega)) (g := (mkF m 52 #[.val (.ref a), .val (.int (Int32.ofNat i)), .val (.int (1 : Int32)), .unset] [(.int (Int32.ofNat i)), (.ref rb)])) rfl rfl (hb hby d6_52) _ ?_
            show Steps p.tables e below (T11.setTop (mkF m 53 #[.val (.ref a), .val (.int (Int32.ofNat i)), .val (.int (1 : Int32)), .unset] [(.int (cs.getD i 0))])) _
            refine XS.bipush X11.here hx rfl (hb hby d6_53) ?_
            show Steps p.tables e below (T11.setTop (mkF m 55 #[.val (.ref a), .val (.int (Int32.ofNat i)), .val (.int (1 : Int32)), .unset] [(.int (32 : Int32)), (.int (cs.getD i 0))])) _
            exact k
          by_cases hc55_12 : (cs.getD i 0) = (32 : Int32)
          · refine own_go (T' := T11) (g' := (mkF m 69 #[.val (.ref a), .val (.int (Int32.ofNat i)), .val (.int (1 : Int32)), .unset] [])) (fun t k => ?_) ?_
            · refine XS.icmpYes X11.here hx rfl (pc0 := 55) (pc' := 69) rfl (hb hby d6_55) rfl (teq hc55_12).1 (by decide) (by decide) ?_
              exact k
            refine own_go (T' := T11) (g' := (mkF m 35 #[.val (.ref a), .val (.int ((Int32.ofNat i) + (1 : Int32))), .val (.int (1 : Int32)), .unset] [])) (fun t k => ?_) ?_
            · show Steps p.tables e below (T11.setTop (mkF m 69 #[.val (.ref a), .val (.int (Int32.ofNat i)), .val (.int (1 : Int32)), .unset] [])) t
              refine XS.iinc X11.here hx rfl (hb hby d6_69) rfl (l' := #[.val (.ref a), .val (.int ((Int32.ofNat i) + (1 : Int32))), .val (.int (1 : Int32)), .unset]) rfl ?_
              show Steps p.tables e below (T11.setTop (mkF m 72 #[.val (.ref a), .val (.int ((Int32.ofNat i) + (1 : Int32))), .val (.int (1 : Int32)), .unset] [])) _
              refine XS.goto X11.here hx rfl (pc0 := 72) (pc' := 35) rfl (hb hby d6_72) (by decide) (by decide) ?_
              show Steps p.tables e below (T11.setTop (mkF m 35 #[.val (.ref a), .val (.int ((Int32.ofNat i) + (1 : Int32))), .val (.int (1 : Int32)), .unset] [])) _
              exact k
            rw [own_inc]
            exact ih (i + 1) (by omega) (by rw [← own_run_yes (own_ws32 hc55_12)]; exact hj) _ _ X11 e11 N
          · refine own_go (T' := T11) (g' := (mkF m 58 #[.val (.ref a), .val (.int (Int32.ofNat i)), .val (.int (1 : Int32)), .unset] [])) (fun t k => ?_) ?_
            · refine XS.icmpNo X11.here hx rfl (hb hby d6_55) rfl (feq hc55_12).1 ?_
              exact k
            refine own_go (T' := T11) (g' := (mkF m 59 #[.val (.ref a), .val (.int (Int32.ofNat i)), .val (.int (1 : Int32)), .unset] [(.ref a)])) (fun t k => ?_) ?_
            · show Steps p.tables e below (T11.setTop (mkF m 58 #[.val (.ref a), .val (.int (Int32.ofNat i)), .val (.int (1 : Int32)), .unset] [])) t
              refine XS.aloadN X11.here hx rfl (hb hby d6_58) rfl rfl ?_
              show Steps p.tables e below (T11.setTop (mkF m 59 #[.val (.ref a), .val (.int (Int32.ofNat i)), .val (.int (1 : Int32)), .unset] [(.ref a)])) _
              exact k
            obtain ⟨T13, X13, e13, st13⟩ := getF X11 hx hZ hown (host := "") (Or.inl (hw _ (List.mem_of_getElem? (i := 24) rfl))) Via.refl e11 I0b (g := (mkF m 59 #[.val (.ref a), .val (.int (Int32.ofNat i)), .val (.int (1 : Int32)), .unset] [(.ref a)])) rfl rfl (hb hby d6_59)
            refine own_go (T' := T13) (g' := (mkF m 62 #[.val (.ref a), .val (.int (Int32.ofNat i)), .val (.int (1 : Int32)), .unset] [(.ref rb)])) st13 ?_
            refine own_go (T' := T13) (g' := (mkF m 66 #[.val (.ref a), .val (.int (Int32.ofNat i)), .val (.int (1 : Int32)), .unset] [(.int (9 : Int32)), (.int (cs.getD i 0))])) (fun t k => ?_) ?_
            · show Steps p.tables e below (T13.setTop (mkF m 62 #[.val (.ref a), .val (.int (Int32.ofNat i)), .val (.int (1 : Int32)), .unset] [(.ref rb)])) t
              refine XS.iloadN X13.here hx rfl (hb hby d6_62) rfl ?_
              show Steps p.tables e below (T13.setTop (mkF m 63 #[.val (.ref a), .val (.int (Int32.ofNat i)), .val (.int (1 : Int32)), .unset] [(.int (Int32.ofNat i)), (.ref rb)])) _
              refine own_ldC X13 hx hZ e13 V0 (j := (Int32.ofNat i)) (own_ix hnn (by omega)) (v := (.int (cs.getD i 0))) (own_gd cs (by omega)) (g := (mkF m 63 #[.val (.ref a), .val (.int (Int32.ofNat i)), .val (.int (1 : Int32)), .unset] [(.int (Int32.ofNat i)), (.ref rb)])) rfl rfl (hb hby d6_63) _ ?_
              show Steps p.tables e below (T13.setTop (mkF m 64 #[.val (.ref a), .val (.int (Int32.ofNat i)), .val (.int (1 : Int32)), .unset] [(.int (cs.getD i 0))])) _
              refine XS.bipush X13.here hx rfl (hb hby d6_64) ?_
              show Steps p.tables e below (T13.setTop (mkF m 66 #[.val (.ref a), .val (.int (Int32.ofNat i)), .val (.int (1 : Int32)), .unset] [(.int (9 : Int32)), (.int (cs.getD i 0))])) _
              exact k
            by_cases hc66_14 : (cs.getD i 0) = (9 : Int32)
            · refine own_go (T' := T13) (g' := (mkF m 69 #[.val (.ref a), .val (.int (Int32.ofNat i)), .val (.int (1 : Int32)), .unset] [])) (fun t k => ?_) ?_
              · refine XS.icmpNo X13.here hx rfl (hb hby d6_66) rfl (teq hc66_14).2 ?_
                exact k
              refine own_go (T' := T13) (g' := (mkF m 35 #[.val (.ref a), .val (.int ((Int32.ofNat i) + (1 : Int32))), .val (.int (1 : Int32)), .unset] [])) (fun t k => ?_) ?_
              · show Steps p.tables e below (T13.setTop (mkF m 69 #[.val (.ref a), .val (.int (Int32.ofNat i)), .val (.int (1 : Int32)), .unset] [])) t
                refine XS.iinc X13.here hx rfl (hb hby d6_69) rfl (l' := #[.val (.ref a), .val (.int ((Int32.ofNat i) + (1 : Int32))), .val (.int (1 : Int32)), .unset]) rfl ?_
                show Steps p.tables e below (T13.setTop (mkF m 72 #[.val (.ref a), .val (.int ((Int32.ofNat i) + (1 : Int32))), .val (.int (1 : Int32)), .unset] [])) _
                refine XS.goto X13.here hx rfl (pc0 := 72) (pc' := 35) rfl (hb hby d6_72) (by decide) (by decide) ?_
                show Steps p.tables e below (T13.setTop (mkF m 35 #[.val (.ref a), .val (.int ((Int32.ofNat i) + (1 : Int32))), .val (.int (1 : Int32)), .unset] [])) _
                exact k
              rw [own_inc]
              exact ih (i + 1) (by omega) (by rw [← own_run_yes (own_ws9 hc55_12 hc66_14)]; exact hj) _ _ X13 e13 N
            · refine own_go (T' := T13) (g' := (mkF m 75 #[.val (.ref a), .val (.int (Int32.ofNat i)), .val (.int (1 : Int32)), .unset] [])) (fun t k => ?_) ?_
              · refine XS.icmpYes X13.here hx rfl (pc0 := 66) (pc' := 75) rfl (hb hby d6_66) rfl (feq hc66_14).2 (by decide) (by decide) ?_
                exact k
              rw [show i = own_end cs pN from ((own_run_no (own_ws0 hc55_12 hc66_14)).symm.trans hj)]
              exact w8 _ _ X13 e13 N
      exact loop (5 - pN) (pN + 1) (by omega) rfl _ _ X7 e7 N7
    intro T8 L8 X8 e8 N8
    have eb := own_end_b (cs := cs) hpN
    refine own_go (T' := T8) (g' := (mkF m 81 #[.val (.ref a), .val (.int (Int32.ofNat (own_end cs pN))), .val (.int (1 : Int32)), .unset] [(.ref a), (.int (Int32.ofNat (own_end cs pN)))])) (fun t k => ?_) ?_
    · show Steps p.tables e below (T8.setTop (mkF m 75 #[.val (.ref a), .val (.int (Int32.ofNat (own_end cs pN))), .val (.int (1 : Int32)), .unset] [])) t
      refine XS.iloadN X8.here hx rfl (hb hby d6_75) rfl ?_
      show Steps p.tables e below (T8.setTop (mkF m 76 #[.val (.ref a), .val (.int (Int32.ofNat (own_end cs pN))), .val (.int (1 : Int32)), .unset] [(.int (1 : Int32))])) _
      refine XS.ifNo X8.here hx rfl (hb hby d6_76) rfl ((if0 _ _).trans (feq (by decide)).1) ?_
      show Steps p.tables e below (T8.setTop (mkF m 79 #[.val (.ref a), .val (.int (Int32.ofNat (own_end cs pN))), .val (.int (1 : Int32)), .unset] [])) _
      refine XS.iloadN X8.here hx rfl (hb hby d6_79) rfl ?_
      show Steps p.tables e below (T8.setTop (mkF m 80 #[.val (.ref a), .val (.int (Int32.ofNat (own_end cs pN))), .val (.int (1 : Int32)), .unset] [(.int (Int32.ofNat (own_end cs pN)))])) _
      refine XS.aloadN X8.here hx rfl (hb hby d6_80) rfl rfl ?_
      show Steps p.tables e below (T8.setTop (mkF m 81 #[.val (.ref a), .val (.int (Int32.ofNat (own_end cs pN))), .val (.int (1 : Int32)), .unset] [(.ref a), (.int (Int32.ofNat (own_end cs pN)))])) _
      exact k
    obtain ⟨T15, X15, e15, st15⟩ := getF X8 hx hZ hown (host := "") (Or.inl (hw _ (List.mem_of_getElem? (i := 36) rfl))) Via.refl e8 I0h (g := (mkF m 81 #[.val (.ref a), .val (.int (Int32.ofNat (own_end cs pN))), .val (.int (1 : Int32)), .unset] [(.ref a), (.int (Int32.ofNat (own_end cs pN)))])) rfl rfl (hb hby d6_81)
    refine own_go (T' := T15) (g' := (mkF m 84 #[.val (.ref a), .val (.int (Int32.ofNat (own_end cs pN))), .val (.int (1 : Int32)), .unset] [(.int (6 : Int32)), (.int (Int32.ofNat (own_end cs pN)))])) st15 ?_
    by_cases hc84_16 : (Int32.ofNat (own_end cs pN)) < (6 : Int32)
    · refine own_go (T' := T15) (g' := (mkF m 87 #[.val (.ref a), .val (.int (Int32.ofNat (own_end cs pN))), .val (.int (1 : Int32)), .unset] [])) (fun t k => ?_) ?_
      · refine XS.icmpNo X15.here hx rfl (hb hby d6_84) rfl (tlt hc84_16).2.1 ?_
        exact k
      refine own_go (T' := T15) (g' := (mkF m 88 #[.val (.ref a), .val (.int (Int32.ofNat (own_end cs pN))), .val (.int (1 : Int32)), .unset] [(.ref a)])) (fun t k => ?_) ?_
      · show Steps p.tables e below (T15.setTop (mkF m 87 #[.val (.ref a), .val (.int (Int32.ofNat (own_end cs pN))), .val (.int (1 : Int32)), .unset] [])) t
        refine XS.aloadN X15.here hx rfl (hb hby d6_87) rfl rfl ?_
        show Steps p.tables e below (T15.setTop (mkF m 88 #[.val (.ref a), .val (.int (Int32.ofNat (own_end cs pN))), .val (.int (1 : Int32)), .unset] [(.ref a)])) _
        exact k
      obtain ⟨T17, X17, e17, st17⟩ := getF X15 hx hZ hown (host := "") (Or.inl (hw _ (List.mem_of_getElem? (i := 24) rfl))) Via.refl e15 I0b (g := (mkF m 88 #[.val (.ref a), .val (.int (Int32.ofNat (own_end cs pN))), .val (.int (1 : Int32)), .unset] [(.ref a)])) rfl rfl (hb hby d6_88)
      refine own_go (T' := T17) (g' := (mkF m 91 #[.val (.ref a), .val (.int (Int32.ofNat (own_end cs pN))), .val (.int (1 : Int32)), .unset] [(.ref rb)])) st17 ?_
      refine own_go (T' := T17) (g' := (mkF m 95 #[.val (.ref a), .val (.int (Int32.ofNat (own_end cs pN))), .val (.int (1 : Int32)), .unset] [(.int (60 : Int32)), (.int (cs.getD (own_end cs pN) 0))])) (fun t k => ?_) ?_
      · show Steps p.tables e below (T17.setTop (mkF m 91 #[.val (.ref a), .val (.int (Int32.ofNat (own_end cs pN))), .val (.int (1 : Int32)), .unset] [(.ref rb)])) t
        refine XS.iloadN X17.here hx rfl (hb hby d6_91) rfl ?_
        show Steps p.tables e below (T17.setTop (mkF m 92 #[.val (.ref a), .val (.int (Int32.ofNat (own_end cs pN))), .val (.int (1 : Int32)), .unset] [(.int (Int32.ofNat (own_end cs pN))), (.ref rb)])) _
        refine own_ldC X17 hx hZ e17 V0 (j := (Int32.ofNat (own_end cs pN))) (own_ix hnn (own_lt6' hc84_16 (by omega))) (v := (.int (cs.getD (own_end cs pN) 0))) (own_gd cs (own_lt6' hc84_16 (by omega))) (g := (mkF m 92 #[.val (.ref a), .val (.int (Int32.ofNat (own_end cs pN))), .val (.int (1 : Int32)), .unset] [(.int (Int32.ofNat (own_end cs pN))), (.ref rb)])) rfl rfl (hb hby d6_92) _ ?_
        show Steps p.tables e below (T17.setTop (mkF m 93 #[.val (.ref a), .val (.int (Int32.ofNat (own_end cs pN))), .val (.int (1 : Int32)), .unset] [(.int (cs.getD (own_end cs pN) 0))])) _
        refine XS.bipush X17.here hx rfl (hb hby d6_93) ?_
        show Steps p.tables e below (T17.setTop (mkF m 95 #[.val (.ref a), .val (.int (Int32.ofNat (own_end cs pN))), .val (.int (1 : Int32)), .unset] [(.int (60 : Int32)), (.int (cs.getD (own_end cs pN) 0))])) _
        exact k
      by_cases hc95_18 : (cs.getD (own_end cs pN) 0) = (60 : Int32)
      · refine own_go (T' := T17) (g' := (mkF m 98 #[.val (.ref a), .val (.int (Int32.ofNat (own_end cs pN))), .val (.int (1 : Int32)), .unset] [])) (fun t k => ?_) ?_
        · refine XS.icmpNo X17.here hx rfl (hb hby d6_95) rfl (teq hc95_18).2 ?_
          exact k
        refine own_go (T' := T17) (g' := (mkF m 100 #[.val (.ref a), .val (.int (Int32.ofNat (own_end cs pN))), .val (.int (1 : Int32)), .unset] [(.ref a), (.int (Int32.ofNat (own_end cs pN)))])) (fun t k => ?_) ?_
        · show Steps p.tables e below (T17.setTop (mkF m 98 #[.val (.ref a), .val (.int (Int32.ofNat (own_end cs pN))), .val (.int (1 : Int32)), .unset] [])) t
          refine XS.iloadN X17.here hx rfl (hb hby d6_98) rfl ?_
          show Steps p.tables e below (T17.setTop (mkF m 99 #[.val (.ref a), .val (.int (Int32.ofNat (own_end cs pN))), .val (.int (1 : Int32)), .unset] [(.int (Int32.ofNat (own_end cs pN)))])) _
          refine XS.aloadN X17.here hx rfl (hb hby d6_99) rfl rfl ?_
          show Steps p.tables e below (T17.setTop (mkF m 100 #[.val (.ref a), .val (.int (Int32.ofNat (own_end cs pN))), .val (.int (1 : Int32)), .unset] [(.ref a), (.int (Int32.ofNat (own_end cs pN)))])) _
          exact k
        obtain ⟨T19, X19, e19, st19⟩ := getF X17 hx hZ hown (host := "") (Or.inl (hw _ (List.mem_of_getElem? (i := 54) rfl))) Via.refl e17 I0p (g := (mkF m 100 #[.val (.ref a), .val (.int (Int32.ofNat (own_end cs pN))), .val (.int (1 : Int32)), .unset] [(.ref a), (.int (Int32.ofNat (own_end cs pN)))])) rfl rfl (hb hby d6_100)
        refine own_go (T' := T19) (g' := (mkF m 103 #[.val (.ref a), .val (.int (Int32.ofNat (own_end cs pN))), .val (.int (1 : Int32)), .unset] [(.int (Int32.ofNat pN)), (.int (Int32.ofNat (own_end cs pN)))])) st19 ?_
        refine own_go (T' := T19) (g' := (mkF m 104 #[.val (.ref a), .val (.int (Int32.ofNat (own_end cs pN))), .val (.int (1 : Int32)), .unset] [(.int ((Int32.ofNat (own_end cs pN)) - (Int32.ofNat pN)))])) (fun t k => ?_) ?_
        · show Steps p.tables e below (T19.setTop (mkF m 103 #[.val (.ref a), .val (.int (Int32.ofNat (own_end cs pN))), .val (.int (1 : Int32)), .unset] [(.int (Int32.ofNat pN)), (.int (Int32.ofNat (own_end cs pN)))])) t
          refine XS.isub X19.here hx rfl (hb hby d6_103) rfl ?_
          show Steps p.tables e below (T19.setTop (mkF m 104 #[.val (.ref a), .val (.int (Int32.ofNat (own_end cs pN))), .val (.int (1 : Int32)), .unset] [(.int ((Int32.ofNat (own_end cs pN)) - (Int32.ofNat pN)))])) _
          exact k
        rw [own_subN (by omega) (by omega)]
        refine own_go (T' := T19) (g' := (mkF m 110 #[.val (.ref a), .val (.int (Int32.ofNat (own_end cs pN))), .val (.int (1 : Int32)), .val (.int (Int32.ofNat (own_end cs pN - pN)))] [(.int (Int32.ofNat (own_end cs pN - pN)))])) (fun t k => ?_) ?_
        · show Steps p.tables e below (T19.setTop (mkF m 104 #[.val (.ref a), .val (.int (Int32.ofNat (own_end cs pN))), .val (.int (1 : Int32)), .unset] [(.int (Int32.ofNat (own_end cs pN - pN)))])) t
          refine XS.goto X19.here hx rfl (pc0 := 104) (pc' := 108) rfl (hb hby d6_104) (by decide) (by decide) ?_
          show Steps p.tables e below (T19.setTop (mkF m 108 #[.val (.ref a), .val (.int (Int32.ofNat (own_end cs pN))), .val (.int (1 : Int32)), .unset] [(.int (Int32.ofNat (own_end cs pN - pN)))])) _
          refine XS.istoreN X19.here hx rfl (hb hby d6_108) rfl (l' := #[.val (.ref a), .val (.int (Int32.ofNat (own_end cs pN))), .val (.int (1 : Int32)), .val (.int (Int32.ofNat (own_end cs pN - pN)))]) rfl ?_
          show Steps p.tables e below (T19.setTop (mkF m 109 #[.val (.ref a), .val (.int (Int32.ofNat (own_end cs pN))), .val (.int (1 : Int32)), .val (.int (Int32.ofNat (own_end cs pN - pN)))] [])) _
          refine XS.iloadN X19.here hx rfl (hb hby d6_109) rfl ?_
          show Steps p.tables e below (T19.setTop (mkF m 110 #[.val (.ref a), .val (.int (Int32.ofNat (own_end cs pN))), .val (.int (1 : Int32)), .val (.int (Int32.ofNat (own_end cs pN - pN)))] [(.int (Int32.ofNat (own_end cs pN - pN)))])) _
          exact k
        refine own_go (T' := T19) (g' := (mkF m 115 #[.val (.ref a), .val (.int (Int32.ofNat (own_end cs pN))), .val (.int (1 : Int32)), .val (.int (Int32.ofNat (own_end cs pN - pN)))] [(.ref a), (.ref a)])) (fun t k => ?_) ?_
        · show Steps p.tables e below (T19.setTop (mkF m 110 #[.val (.ref a), .val (.int (Int32.ofNat (own_end cs pN))), .val (.int (1 : Int32)), .val (.int (Int32.ofNat (own_end cs pN - pN)))] [(.int (Int32.ofNat (own_end cs pN - pN)))])) t
          refine XS.ifNo X19.here hx rfl (hb hby d6_110) rfl ((if0 _ _).trans (tlt (own_pos6 (by omega) (by omega))).2.2.2) ?_
          show Steps p.tables e below (T19.setTop (mkF m 113 #[.val (.ref a), .val (.int (Int32.ofNat (own_end cs pN))), .val (.int (1 : Int32)), .val (.int (Int32.ofNat (own_end cs pN - pN)))] [])) _
          refine XS.aloadN X19.here hx rfl (hb hby d6_113) rfl rfl ?_
          show Steps p.tables e below (T19.setTop (mkF m 114 #[.val (.ref a), .val (.int (Int32.ofNat (own_end cs pN))), .val (.int (1 : Int32)), .val (.int (Int32.ofNat (own_end cs pN - pN)))] [(.ref a)])) _
          refine XS.dup X19.here hx rfl (hb hby d6_114) rfl rfl ?_
          show Steps p.tables e below (T19.setTop (mkF m 115 #[.val (.ref a), .val (.int (Int32.ofNat (own_end cs pN))), .val (.int (1 : Int32)), .val (.int (Int32.ofNat (own_end cs pN - pN)))] [(.ref a), (.ref a)])) _
          exact k
        obtain ⟨T20, X20, e20, st20⟩ := getF X19 hx hZ hown (host := "") (Or.inl (hw _ (List.mem_of_getElem? (i := 16) rfl))) Via.refl e19 I0l (g := (mkF m 115 #[.val (.ref a), .val (.int (Int32.ofNat (own_end cs pN))), .val (.int (1 : Int32)), .val (.int (Int32.ofNat (own_end cs pN - pN)))] [(.ref a), (.ref a)])) rfl rfl (hb hby d6_115)
        refine own_go (T' := T20) (g' := (mkF m 118 #[.val (.ref a), .val (.int (Int32.ofNat (own_end cs pN))), .val (.int (1 : Int32)), .val (.int (Int32.ofNat (own_end cs pN - pN)))] [(.int ln), (.ref a)])) st20 ?_
        refine own_go (T' := T20) (g' := (mkF m 120 #[.val (.ref a), .val (.int (Int32.ofNat (own_end cs pN))), .val (.int (1 : Int32)), .val (.int (Int32.ofNat (own_end cs pN - pN)))] [(.int (ln + (1 : Int32))), (.ref a)])) (fun t k => ?_) ?_
        · show Steps p.tables e below (T20.setTop (mkF m 118 #[.val (.ref a), .val (.int (Int32.ofNat (own_end cs pN))), .val (.int (1 : Int32)), .val (.int (Int32.ofNat (own_end cs pN - pN)))] [(.int ln), (.ref a)])) t
          refine XS.iconst X20.here hx rfl (hb hby d6_118) ?_
          show Steps p.tables e below (T20.setTop (mkF m 119 #[.val (.ref a), .val (.int (Int32.ofNat (own_end cs pN))), .val (.int (1 : Int32)), .val (.int (Int32.ofNat (own_end cs pN - pN)))] [(.int (1 : Int32)), (.int ln), (.ref a)])) _
          refine XS.iadd X20.here hx rfl (hb hby d6_119) rfl ?_
          show Steps p.tables e below (T20.setTop (mkF m 120 #[.val (.ref a), .val (.int (Int32.ofNat (own_end cs pN))), .val (.int (1 : Int32)), .val (.int (Int32.ofNat (own_end cs pN - pN)))] [(.int (ln + (1 : Int32))), (.ref a)])) _
          exact k
        obtain ⟨T21, h21, X21, e21, W21, st21⟩ := putF X20 hx hZ hown (host := "") (Or.inl (hw _ (List.mem_of_getElem? (i := 16) rfl))) Via.refl e20 I0l I0e (Or.inl (hw _ (List.mem_of_getElem? (i := 17) rfl))) (hw _ (List.mem_of_getElem? (i := 8) rfl)) (ty := .int) (by decide) rfl rfl (g := (mkF m 120 #[.val (.ref a), .val (.int (Int32.ofNat (own_end cs pN))), .val (.int (1 : Int32)), .val (.int (Int32.ofNat (own_end cs pN - pN)))] [(.int (ln + (1 : Int32))), (.ref a)])) rfl rfl (hb hby d6_120)
        have V_rb_21 := V0.other W21 (Nat.ne_of_lt lt_rb)
        have E_a_21 := Exa.wr W21 I0e
        have F_a_position_21 := Fld.other W21 I0p (Or.inr (slot_ne (Or.inl (hw _ (List.mem_of_getElem? (i := 55) rfl))) (Or.inl (hw _ (List.mem_of_getElem? (i := 17) rfl))) (by decide) (t := .int) (t' := .int) (by decide) (by decide)))
        have F_a_column_21 := Fld.other W21 I0c (Or.inr (slot_ne (Or.inl (hw _ (List.mem_of_getElem? (i := 19) rfl))) (Or.inl (hw _ (List.mem_of_getElem? (i := 17) rfl))) (by decide) (t := .int) (t' := .int) (by decide) (by decide)))
        have F_a_buffer_21 := Fld.other W21 I0b (Or.inr (slot_ne (Or.inr (hw _ (List.mem_of_getElem? (i := 25) rfl))) (Or.inl (hw _ (List.mem_of_getElem? (i := 17) rfl))) (by decide) (t := (.array .char)) (t' := .int) (by decide) (by decide)))
        have F_a_checked_21 := Fld.other W21 I0h (Or.inr (slot_ne (Or.inl (hw _ (List.mem_of_getElem? (i := 37) rfl))) (Or.inl (hw _ (List.mem_of_getElem? (i := 17) rfl))) (by decide) (t := .int) (t' := .int) (by decide) (by decide)))
        have K21 := K0.wr W21 (Or.inl (List.mem_of_getElem? (i := 0) rfl))
        have F_a_line_21 : Fld Z h21 a "com/example/virta/virta/Input" "line" "I" (.int (ln + (1 : Int32))) := Fld.same W21 I0l
        have N21 := Fr.snoc X21 N8 ga_a
        have sz_21 := Nat.le_trans Z0 (Nat.le_of_eq (Wr.size W21).symm)
        refine own_go (T' := T21) (g' := (mkF m 123 #[.val (.ref a), .val (.int (Int32.ofNat (own_end cs pN))), .val (.int (1 : Int32)), .val (.int (Int32.ofNat (own_end cs pN - pN)))] [])) st21 ?_
        refine own_go (T' := T21) (g' := (mkF m 125 #[.val (.ref a), .val (.int (Int32.ofNat (own_end cs pN))), .val (.int (1 : Int32)), .val (.int (Int32.ofNat (own_end cs pN - pN)))] [(.int (Int32.ofNat (own_end cs pN - pN))), (.ref a)])) (fun t k => ?_) ?_
        · show Steps p.tables e below (T21.setTop (mkF m 123 #[.val (.ref a), .val (.int (Int32.ofNat (own_end cs pN))), .val (.int (1 : Int32)), .val (.int (Int32.ofNat (own_end cs pN - pN)))] [])) t
          refine XS.aloadN X21.here hx rfl (hb hby d6_123) rfl rfl ?_
          show Steps p.tables e below (T21.setTop (mkF m 124 #[.val (.ref a), .val (.int (Int32.ofNat (own_end cs pN))), .val (.int (1 : Int32)), .val (.int (Int32.ofNat (own_end cs pN - pN)))] [(.ref a)])) _
          refine XS.iloadN X21.here hx rfl (hb hby d6_124) rfl ?_
          show Steps p.tables e below (T21.setTop (mkF m 125 #[.val (.ref a), .val (.int (Int32.ofNat (own_end cs pN))), .val (.int (1 : Int32)), .val (.int (Int32.ofNat (own_end cs pN - pN)))] [(.int (Int32.ofNat (own_end cs pN - pN))), (.ref a)])) _
          exact k
        obtain ⟨T22, h22, X22, e22, W22, st22⟩ := putF X21 hx hZ hown (host := "") (Or.inl (hw _ (List.mem_of_getElem? (i := 18) rfl))) Via.refl e21 F_a_column_21 E_a_21 (Or.inl (hw _ (List.mem_of_getElem? (i := 19) rfl))) (hw _ (List.mem_of_getElem? (i := 8) rfl)) (ty := .int) (by decide) rfl rfl (g := (mkF m 125 #[.val (.ref a), .val (.int (Int32.ofNat (own_end cs pN))), .val (.int (1 : Int32)), .val (.int (Int32.ofNat (own_end cs pN - pN)))] [(.int (Int32.ofNat (own_end cs pN - pN))), (.ref a)])) rfl rfl (hb hby d6_125)
        have V_rb_22 := V_rb_21.other W22 (Nat.ne_of_lt lt_rb)
        have E_a_22 := Exa.wr W22 E_a_21
        have F_a_position_22 := Fld.other W22 F_a_position_21 (Or.inr (slot_ne (Or.inl (hw _ (List.mem_of_getElem? (i := 55) rfl))) (Or.inl (hw _ (List.mem_of_getElem? (i := 19) rfl))) (by decide) (t := .int) (t' := .int) (by decide) (by decide)))
        have F_a_line_22 := Fld.other W22 F_a_line_21 (Or.inr (slot_ne (Or.inl (hw _ (List.mem_of_getElem? (i := 17) rfl))) (Or.inl (hw _ (List.mem_of_getElem? (i := 19) rfl))) (by decide) (t := .int) (t' := .int) (by decide) (by decide)))
        have F_a_buffer_22 := Fld.other W22 F_a_buffer_21 (Or.inr (slot_ne (Or.inr (hw _ (List.mem_of_getElem? (i := 25) rfl))) (Or.inl (hw _ (List.mem_of_getElem? (i := 19) rfl))) (by decide) (t := (.array .char)) (t' := .int) (by decide) (by decide)))
        have F_a_checked_22 := Fld.other W22 F_a_checked_21 (Or.inr (slot_ne (Or.inl (hw _ (List.mem_of_getElem? (i := 37) rfl))) (Or.inl (hw _ (List.mem_of_getElem? (i := 19) rfl))) (by decide) (t := .int) (t' := .int) (by decide) (by decide)))
        have K22 := K21.wr W22 (Or.inl (List.mem_of_getElem? (i := 0) rfl))
        have F_a_column_22 : Fld Z h22 a "com/example/virta/virta/Input" "column" "I" (.int (Int32.ofNat (own_end cs pN - pN))) := Fld.same W22 F_a_column_21
        have N22 := Fr.snoc X22 N21 ga_a
        have sz_22 := Nat.le_trans sz_21 (Nat.le_of_eq (Wr.size W22).symm)
        refine own_go (T' := T22) (g' := (mkF m 128 #[.val (.ref a), .val (.int (Int32.ofNat (own_end cs pN))), .val (.int (1 : Int32)), .val (.int (Int32.ofNat (own_end cs pN - pN)))] [])) st22 ?_
        refine own_go (T' := T22) (g' := (mkF m 130 #[.val (.ref a), .val (.int (Int32.ofNat (own_end cs pN))), .val (.int (1 : Int32)), .val (.int (Int32.ofNat (own_end cs pN - pN)))] [(.int (Int32.ofNat (own_end cs pN))), (.ref a)])) (fun t k => ?_) ?_
        · show Steps p.tables e below (T22.setTop (mkF m 128 #[.val (.ref a), .val (.int (Int32.ofNat (own_end cs pN))), .val (.int (1 : Int32)), .val (.int (Int32.ofNat (own_end cs pN - pN)))] [])) t
          refine XS.aloadN X22.here hx rfl (hb hby d6_128) rfl rfl ?_
          show Steps p.tables e below (T22.setTop (mkF m 129 #[.val (.ref a), .val (.int (Int32.ofNat (own_end cs pN))), .val (.int (1 : Int32)), .val (.int (Int32.ofNat (own_end cs pN - pN)))] [(.ref a)])) _
          refine XS.iloadN X22.here hx rfl (hb hby d6_129) rfl ?_
          show Steps p.tables e below (T22.setTop (mkF m 130 #[.val (.ref a), .val (.int (Int32.ofNat (own_end cs pN))), .val (.int (1 : Int32)), .val (.int (Int32.ofNat (own_end cs pN - pN)))] [(.int (Int32.ofNat (own_end cs pN))), (.ref a)])) _
          exact k
        obtain ⟨T23, h23, X23, e23, W23, st23⟩ := putF X22 hx hZ hown (host := "") (Or.inl (hw _ (List.mem_of_getElem? (i := 54) rfl))) Via.refl e22 F_a_position_22 E_a_22 (Or.inl (hw _ (List.mem_of_getElem? (i := 55) rfl))) (hw _ (List.mem_of_getElem? (i := 8) rfl)) (ty := .int) (by decide) rfl rfl (g := (mkF m 130 #[.val (.ref a), .val (.int (Int32.ofNat (own_end cs pN))), .val (.int (1 : Int32)), .val (.int (Int32.ofNat (own_end cs pN - pN)))] [(.int (Int32.ofNat (own_end cs pN))), (.ref a)])) rfl rfl (hb hby d6_130)
        have V_rb_23 := V_rb_22.other W23 (Nat.ne_of_lt lt_rb)
        have E_a_23 := Exa.wr W23 E_a_22
        have F_a_column_23 := Fld.other W23 F_a_column_22 (Or.inr (slot_ne (Or.inl (hw _ (List.mem_of_getElem? (i := 19) rfl))) (Or.inl (hw _ (List.mem_of_getElem? (i := 55) rfl))) (by decide) (t := .int) (t' := .int) (by decide) (by decide)))
        have F_a_line_23 := Fld.other W23 F_a_line_22 (Or.inr (slot_ne (Or.inl (hw _ (List.mem_of_getElem? (i := 17) rfl))) (Or.inl (hw _ (List.mem_of_getElem? (i := 55) rfl))) (by decide) (t := .int) (t' := .int) (by decide) (by decide)))
        have F_a_buffer_23 := Fld.other W23 F_a_buffer_22 (Or.inr (slot_ne (Or.inr (hw _ (List.mem_of_getElem? (i := 25) rfl))) (Or.inl (hw _ (List.mem_of_getElem? (i := 55) rfl))) (by decide) (t := (.array .char)) (t' := .int) (by decide) (by decide)))
        have F_a_checked_23 := Fld.other W23 F_a_checked_22 (Or.inr (slot_ne (Or.inl (hw _ (List.mem_of_getElem? (i := 37) rfl))) (Or.inl (hw _ (List.mem_of_getElem? (i := 55) rfl))) (by decide) (t := .int) (t' := .int) (by decide) (by decide)))
        have K23 := K22.wr W23 (Or.inl (List.mem_of_getElem? (i := 0) rfl))
        have F_a_position_23 : Fld Z h23 a "com/example/virta/virta/Input" "position" "I" (.int (Int32.ofNat (own_end cs pN))) := Fld.same W23 F_a_position_22
        have N23 := Fr.snoc X23 N22 ga_a
        have sz_23 := Nat.le_trans sz_22 (Nat.le_of_eq (Wr.size W23).symm)
        refine own_go (T' := T23) (g' := (mkF m 133 #[.val (.ref a), .val (.int (Int32.ofNat (own_end cs pN))), .val (.int (1 : Int32)), .val (.int (Int32.ofNat (own_end cs pN - pN)))] [])) st23 ?_
        refine own_go (T' := T23) (g' := (mkF m 134 #[.val (.ref a), .val (.int (Int32.ofNat (own_end cs pN))), .val (.int (1 : Int32)), .val (.int (Int32.ofNat (own_end cs pN - pN)))] [(.int (Int32.ofNat (own_end cs pN - pN)))])) (fun t k => ?_) ?_
        · show Steps p.tables e below (T23.setTop (mkF m 133 #[.val (.ref a), .val (.int (Int32.ofNat (own_end cs pN))), .val (.int (1 : Int32)), .val (.int (Int32.ofNat (own_end cs pN - pN)))] [])) t
          refine XS.iloadN X23.here hx rfl (hb hby d6_133) rfl ?_
          show Steps p.tables e below (T23.setTop (mkF m 134 #[.val (.ref a), .val (.int (Int32.ofNat (own_end cs pN))), .val (.int (1 : Int32)), .val (.int (Int32.ofNat (own_end cs pN - pN)))] [(.int (Int32.ofNat (own_end cs pN - pN)))])) _
          exact k
        have hc2 := own_cnt2 hpd ⟨own_lt6' hc84_16 (by omega), hc95_18⟩
        have hcn : ¬ own_cnt cs pN = 0 := by omega
        exact own_retI X23 hx hlk hret (hb hby d6_134) (by decide) (by decide) N23 (by rw [e23]; unfold own_Qi own_col own_ln; rw [if_neg hcn, if_neg hcn, hc2, show pN + (own_end cs pN - pN) = own_end cs pN by omega]; exact ⟨rfl, K23, ⟨E_a_23, F_a_position_23, F_a_column_23, F_a_line_23, F_a_buffer_23, F_a_checked_23⟩⟩)
      · refine own_go (T' := T17) (g' := (mkF m 107 #[.val (.ref a), .val (.int (Int32.ofNat (own_end cs pN))), .val (.int (1 : Int32)), .unset] [])) (fun t k => ?_) ?_
        · refine XS.icmpYes X17.here hx rfl (pc0 := 95) (pc' := 107) rfl (hb hby d6_95) rfl (feq hc95_18).2 (by decide) (by decide) ?_
          exact k
        refine own_go (T' := T17) (g' := (mkF m 134 #[.val (.ref a), .val (.int (Int32.ofNat (own_end cs pN))), .val (.int (1 : Int32)), .val (.int (0 : Int32))] [(.int (0 : Int32))])) (fun t k => ?_) ?_
        · show Steps p.tables e below (T17.setTop (mkF m 107 #[.val (.ref a), .val (.int (Int32.ofNat (own_end cs pN))), .val (.int (1 : Int32)), .unset] [])) t
          refine XS.iconst X17.here hx rfl (hb hby d6_107) ?_
          show Steps p.tables e below (T17.setTop (mkF m 108 #[.val (.ref a), .val (.int (Int32.ofNat (own_end cs pN))), .val (.int (1 : Int32)), .unset] [(.int (0 : Int32))])) _
          refine XS.istoreN X17.here hx rfl (hb hby d6_108) rfl (l' := #[.val (.ref a), .val (.int (Int32.ofNat (own_end cs pN))), .val (.int (1 : Int32)), .val (.int (0 : Int32))]) rfl ?_
          show Steps p.tables e below (T17.setTop (mkF m 109 #[.val (.ref a), .val (.int (Int32.ofNat (own_end cs pN))), .val (.int (1 : Int32)), .val (.int (0 : Int32))] [])) _
          refine XS.iloadN X17.here hx rfl (hb hby d6_109) rfl ?_
          show Steps p.tables e below (T17.setTop (mkF m 110 #[.val (.ref a), .val (.int (Int32.ofNat (own_end cs pN))), .val (.int (1 : Int32)), .val (.int (0 : Int32))] [(.int (0 : Int32))])) _
          refine XS.ifYes X17.here hx rfl (pc0 := 110) (pc' := 133) rfl (hb hby d6_110) rfl ((if0 _ _).trans (flt (by decide)).2.2.2) (by decide) (by decide) ?_
          show Steps p.tables e below (T17.setTop (mkF m 133 #[.val (.ref a), .val (.int (Int32.ofNat (own_end cs pN))), .val (.int (1 : Int32)), .val (.int (0 : Int32))] [])) _
          refine XS.iloadN X17.here hx rfl (hb hby d6_133) rfl ?_
          show Steps p.tables e below (T17.setTop (mkF m 134 #[.val (.ref a), .val (.int (Int32.ofNat (own_end cs pN))), .val (.int (1 : Int32)), .val (.int (0 : Int32))] [(.int (0 : Int32))])) _
          exact k
        have hc0 := own_cnt1 hpd (fun q => hc95_18 q.2)
        exact own_retI X17 hx hlk hret (hb hby d6_134) (by decide) (by decide) N8 (by rw [e17]; unfold own_Qi own_col own_ln; rw [if_pos hc0, if_pos hc0, hc0]; exact ⟨rfl, K0, ⟨I0e, I0p, I0c, I0l, I0b, I0h⟩⟩)
    · refine own_go (T' := T15) (g' := (mkF m 107 #[.val (.ref a), .val (.int (Int32.ofNat (own_end cs pN))), .val (.int (1 : Int32)), .unset] [])) (fun t k => ?_) ?_
      · refine XS.icmpYes X15.here hx rfl (pc0 := 84) (pc' := 107) rfl (hb hby d6_84) rfl (flt hc84_16).2.1 (by decide) (by decide) ?_
        exact k
      refine own_go (T' := T15) (g' := (mkF m 134 #[.val (.ref a), .val (.int (Int32.ofNat (own_end cs pN))), .val (.int (1 : Int32)), .val (.int (0 : Int32))] [(.int (0 : Int32))])) (fun t k => ?_) ?_
      · show Steps p.tables e below (T15.setTop (mkF m 107 #[.val (.ref a), .val (.int (Int32.ofNat (own_end cs pN))), .val (.int (1 : Int32)), .unset] [])) t
        refine XS.iconst X15.here hx rfl (hb hby d6_107) ?_
        show Steps p.tables e below (T15.setTop (mkF m 108 #[.val (.ref a), .val (.int (Int32.ofNat (own_end cs pN))), .val (.int (1 : Int32)), .unset] [(.int (0 : Int32))])) _
        refine XS.istoreN X15.here hx rfl (hb hby d6_108) rfl (l' := #[.val (.ref a), .val (.int (Int32.ofNat (own_end cs pN))), .val (.int (1 : Int32)), .val (.int (0 : Int32))]) rfl ?_
        show Steps p.tables e below (T15.setTop (mkF m 109 #[.val (.ref a), .val (.int (Int32.ofNat (own_end cs pN))), .val (.int (1 : Int32)), .val (.int (0 : Int32))] [])) _
        refine XS.iloadN X15.here hx rfl (hb hby d6_109) rfl ?_
        show Steps p.tables e below (T15.setTop (mkF m 110 #[.val (.ref a), .val (.int (Int32.ofNat (own_end cs pN))), .val (.int (1 : Int32)), .val (.int (0 : Int32))] [(.int (0 : Int32))])) _
        refine XS.ifYes X15.here hx rfl (pc0 := 110) (pc' := 133) rfl (hb hby d6_110) rfl ((if0 _ _).trans (flt (by decide)).2.2.2) (by decide) (by decide) ?_
        show Steps p.tables e below (T15.setTop (mkF m 133 #[.val (.ref a), .val (.int (Int32.ofNat (own_end cs pN))), .val (.int (1 : Int32)), .val (.int (0 : Int32))] [])) _
        refine XS.iloadN X15.here hx rfl (hb hby d6_133) rfl ?_
        show Steps p.tables e below (T15.setTop (mkF m 134 #[.val (.ref a), .val (.int (Int32.ofNat (own_end cs pN))), .val (.int (1 : Int32)), .val (.int (0 : Int32))] [(.int (0 : Int32))])) _
        exact k
      have hc0 := own_cnt1 hpd (fun q => hc84_16 (own_is6 q.1))
      exact own_retI X15 hx hlk hret (hb hby d6_134) (by decide) (by decide) N8 (by rw [e15]; unfold own_Qi own_col own_ln; rw [if_pos hc0, if_pos hc0, hc0]; exact ⟨rfl, K0, ⟨I0e, I0p, I0c, I0l, I0b, I0h⟩⟩)
  · refine own_go (T' := T7) (g' := (mkF m 134 #[.val (.ref a), .val (.int (Int32.ofNat (pN + 1))), .val (.int (0 : Int32)), .val (.int (0 : Int32))] [(.int (0 : Int32))])) (fun t k => ?_) ?_
    · show Steps p.tables e below (T7.setTop (mkF m 34 #[.val (.ref a), .val (.int (Int32.ofNat (pN + 1))), .unset, .unset] [(.int (0 : Int32))])) t
      refine XS.istoreN X7.here hx rfl (hb hby d6_34) rfl (l' := #[.val (.ref a), .val (.int (Int32.ofNat (pN + 1))), .val (.int (0 : Int32)), .unset]) rfl ?_
      show Steps p.tables e below (T7.setTop (mkF m 35 #[.val (.ref a), .val (.int (Int32.ofNat (pN + 1))), .val (.int (0 : Int32)), .unset] [])) _
      refine XS.iloadN X7.here hx rfl (hb hby d6_35) rfl ?_
      show Steps p.tables e below (T7.setTop (mkF m 36 #[.val (.ref a), .val (.int (Int32.ofNat (pN + 1))), .val (.int (0 : Int32)), .unset] [(.int (0 : Int32))])) _
      refine XS.ifYes X7.here hx rfl (pc0 := 36) (pc' := 75) rfl (hb hby d6_36) rfl ((if0 _ _).trans (teq (by decide)).1) (by decide) (by decide) ?_
      show Steps p.tables e below (T7.setTop (mkF m 75 #[.val (.ref a), .val (.int (Int32.ofNat (pN + 1))), .val (.int (0 : Int32)), .unset] [])) _
      refine XS.iloadN X7.here hx rfl (hb hby d6_75) rfl ?_
      show Steps p.tables e below (T7.setTop (mkF m 76 #[.val (.ref a), .val (.int (Int32.ofNat (pN + 1))), .val (.int (0 : Int32)), .unset] [(.int (0 : Int32))])) _
      refine XS.ifYes X7.here hx rfl (pc0 := 76) (pc' := 107) rfl (hb hby d6_76) rfl ((if0 _ _).trans (teq (by decide)).1) (by decide) (by decide) ?_
      show Steps p.tables e below (T7.setTop (mkF m 107 #[.val (.ref a), .val (.int (Int32.ofNat (pN + 1))), .val (.int (0 : Int32)), .unset] [])) _
      refine XS.iconst X7.here hx rfl (hb hby d6_107) ?_
      show Steps p.tables e below (T7.setTop (mkF m 108 #[.val (.ref a), .val (.int (Int32.ofNat (pN + 1))), .val (.int (0 : Int32)), .unset] [(.int (0 : Int32))])) _
      refine XS.istoreN X7.here hx rfl (hb hby d6_108) rfl (l' := #[.val (.ref a), .val (.int (Int32.ofNat (pN + 1))), .val (.int (0 : Int32)), .val (.int (0 : Int32))]) rfl ?_
      show Steps p.tables e below (T7.setTop (mkF m 109 #[.val (.ref a), .val (.int (Int32.ofNat (pN + 1))), .val (.int (0 : Int32)), .val (.int (0 : Int32))] [])) _
      refine XS.iloadN X7.here hx rfl (hb hby d6_109) rfl ?_
      show Steps p.tables e below (T7.setTop (mkF m 110 #[.val (.ref a), .val (.int (Int32.ofNat (pN + 1))), .val (.int (0 : Int32)), .val (.int (0 : Int32))] [(.int (0 : Int32))])) _
      refine XS.ifYes X7.here hx rfl (pc0 := 110) (pc' := 133) rfl (hb hby d6_110) rfl ((if0 _ _).trans (flt (by decide)).2.2.2) (by decide) (by decide) ?_
      show Steps p.tables e below (T7.setTop (mkF m 133 #[.val (.ref a), .val (.int (Int32.ofNat (pN + 1))), .val (.int (0 : Int32)), .val (.int (0 : Int32))] [])) _
      refine XS.iloadN X7.here hx rfl (hb hby d6_133) rfl ?_
      show Steps p.tables e below (T7.setTop (mkF m 134 #[.val (.ref a), .val (.int (Int32.ofNat (pN + 1))), .val (.int (0 : Int32)), .val (.int (0 : Int32))] [(.int (0 : Int32))])) _
      exact k
    have hc0 := own_cnt0 hnp
    exact own_retI X7 hx hlk hret (hb hby d6_134) (by decide) (by decide) N7 (by rw [e7]; unfold own_Qi own_col own_ln; rw [if_pos hc0, if_pos hc0, hc0]; exact ⟨rfl, K0, ⟨I0e, I0p, I0c, I0l, I0b, I0h⟩⟩)
def own_Q0 : Option Value → Heap → Prop := fun v _ => v = some (.int 1) ∧ True
theorem pd_2 : parseMethodDescriptor "(JI)C" = some ⟨[.long, .int], some .char⟩ := by decide +kernel
theorem pd_3 : parseMethodDescriptor "([CI)I" = some ⟨[(.array .char), .int], some .int⟩ := by decide +kernel
theorem pd_4 : parseMethodDescriptor "([C)V" = some ⟨[(.array .char)], none⟩ := by decide +kernel
theorem pd_5 : parseMethodDescriptor "(I)V" = some ⟨[.int], none⟩ := by decide +kernel
theorem pd_6 : parseMethodDescriptor "()I" = some ⟨[], some .int⟩ := by decide +kernel
theorem ef_0 (m : MethodId) (q0 : Int64) (q1 : Int64) (p2 : Int32) : entryFrame m #[(.long q0), (.long q1), (.int p2)] maxLocals = mkF m 0 #[.val (.long q0), .second, .val (.long q1), .second, .val (.int p2), .unset, .unset, .unset, .unset, .unset, .unset, .unset, .unset, .unset, .unset, .unset] [] := by first | (simp [entryFrame, mkF, argsToLocals, Value.category, maxLocals]; done) | rfl
set_option maxRecDepth 65536 in
set_option maxHeartbeats 40000000 in
theorem rm0 (l : Launch) (Z : State) (a0 : Array Value) (hw : ∀ d ∈ tables_1, d.before a0 Z = true) (q0 q1 : Int64) (p2 : Int32) (h0 : Heap) (n0 : Nat) (Z0 : n0 ≤ h0.size) : own_Con tables_1 l Z x code maxLocals ret room_1 n0 #[(.long q0), (.long q1), (.int p2)] h0 own_Q0 := by
  refine own_body (plainFor_of_name (by first | (simp [plainName, overriddenIn]; done) | decide +kernel)) (fun m => mkF m 0 #[.val (.long q0), .second, .val (.long q1), .second, .val (.int p2), .unset, .unset, .unset, .unset, .unset, .unset, .unset, .unset, .unset, .unset, .unset] []) (fun m => ef_0 m q0 q1 p2) ?_
  intro p e s m below meth c s₁ hx hby hml hown hnm hZ hret hlk X0 e0 N0
  have hml : c.maxLocals = 16 := hml
  have hown : s.vm.findClass "com/example/virta/virta/InputSkipIndentationPinLaw" = some m.cls := hown
  have hret : meth.sig.returnType = some .boolean := hret
  refine own_go (T' := s₁) (g' := (mkF m 2 #[.val (.long q0), .second, .val (.long q1), .second, .val (.int p2), .unset, .unset, .unset, .unset, .unset, .unset, .unset, .unset, .unset, .unset, .unset] [(.int (6 : Int32))])) (fun t k => ?_) ?_
  · show Steps p.tables e below (s₁.setTop (mkF m 0 #[.val (.long q0), .second, .val (.long q1), .second, .val (.int p2), .unset, .unset, .unset, .unset, .unset, .unset, .unset, .unset, .unset, .unset, .unset] [])) t
    refine XS.bipush X0.here hx rfl (hb hby at_0) ?_
    show Steps p.tables e below (s₁.setTop (mkF m 2 #[.val (.long q0), .second, .val (.long q1), .second, .val (.int p2), .unset, .unset, .unset, .unset, .unset, .unset, .unset, .unset, .unset, .unset, .unset] [(.int (6 : Int32))])) _
    exact k
  obtain ⟨T1, h1, k1, b1, g1, X1, e1, E1, A1, st1⟩ := own_new X0 hx hZ (hw _ (List.mem_of_getElem? (i := 0) rfl)) e0 (g := (mkF m 2 #[.val (.long q0), .second, .val (.long q1), .second, .val (.int p2), .unset, .unset, .unset, .unset, .unset, .unset, .unset, .unset, .unset, .unset, .unset] [(.int (6 : Int32))])) rfl (hb hby at_2) rfl (by decide) (cap := 6) (by decide) (by decide) (by decide) (by decide)
  have ga_b1 : n0 ≤ b1 := Nat.le_trans Z0 (Nat.le_of_eq g1.symm)
  have sz_1 := Nat.le_trans Z0 E1.1
  have V_b1_1 : Arv Z h1 b1 k1 .char (6 : Int32) [(.int (0 : Int32)), (.int (0 : Int32)), (.int (0 : Int32)), (.int (0 : Int32)), (.int (0 : Int32)), (.int (0 : Int32))] (.int (0 : Int32)) := A1.pad (pad_rep [] (.int (0 : Int32)) 6)
  refine own_go (T' := T1) (g' := (mkF m 4 #[.val (.long q0), .second, .val (.long q1), .second, .val (.int p2), .unset, .unset, .unset, .unset, .unset, .unset, .unset, .unset, .unset, .unset, .unset] [(.ref b1)])) st1 ?_
  refine own_go (T' := T1) (g' := (mkF m 11 #[.val (.long q0), .second, .val (.long q1), .second, .val (.int p2), .val (.ref b1), .unset, .unset, .unset, .unset, .unset, .unset, .unset, .unset, .unset, .unset] [(.int (0 : Int32)), (.long q0), (.int (0 : Int32)), (.ref b1)])) (fun t k => ?_) ?_
  · show Steps p.tables e below (T1.setTop (mkF m 4 #[.val (.long q0), .second, .val (.long q1), .second, .val (.int p2), .unset, .unset, .unset, .unset, .unset, .unset, .unset, .unset, .unset, .unset, .unset] [(.ref b1)])) t
    refine XS.astore X1.here hx rfl (hb hby at_4) rfl rfl (l' := #[.val (.long q0), .second, .val (.long q1), .second, .val (.int p2), .val (.ref b1), .unset, .unset, .unset, .unset, .unset, .unset, .unset, .unset, .unset, .unset]) rfl ?_
    show Steps p.tables e below (T1.setTop (mkF m 6 #[.val (.long q0), .second, .val (.long q1), .second, .val (.int p2), .val (.ref b1), .unset, .unset, .unset, .unset, .unset, .unset, .unset, .unset, .unset, .unset] [])) _
    refine XS.aload X1.here hx rfl (hb hby at_6) rfl rfl ?_
    show Steps p.tables e below (T1.setTop (mkF m 8 #[.val (.long q0), .second, .val (.long q1), .second, .val (.int p2), .val (.ref b1), .unset, .unset, .unset, .unset, .unset, .unset, .unset, .unset, .unset, .unset] [(.ref b1)])) _
    refine XS.iconst X1.here hx rfl (hb hby at_8) ?_
    show Steps p.tables e below (T1.setTop (mkF m 9 #[.val (.long q0), .second, .val (.long q1), .second, .val (.int p2), .val (.ref b1), .unset, .unset, .unset, .unset, .unset, .unset, .unset, .unset, .unset, .unset] [(.int (0 : Int32)), (.ref b1)])) _
    refine XS.lloadN X1.here hx rfl (hb hby at_9) rfl ?_
    show Steps p.tables e below (T1.setTop (mkF m 10 #[.val (.long q0), .second, .val (.long q1), .second, .val (.int p2), .val (.ref b1), .unset, .unset, .unset, .unset, .unset, .unset, .unset, .unset, .unset, .unset] [(.long q0), (.int (0 : Int32)), (.ref b1)])) _
    refine XS.iconst X1.here hx rfl (hb hby at_10) ?_
    show Steps p.tables e below (T1.setTop (mkF m 11 #[.val (.long q0), .second, .val (.long q1), .second, .val (.int p2), .val (.ref b1), .unset, .unset, .unset, .unset, .unset, .unset, .unset, .unset, .unset, .unset] [(.int (0 : Int32)), (.long q0), (.int (0 : Int32)), (.ref b1)])) _
    exact k
  obtain ⟨_, T2, L2, X2, N2, ⟨rfl, e2⟩, st2⟩ := own_callS X1 hx hZ hown (hw _ (List.mem_of_getElem? (i := 1) rfl)) (hw _ (List.mem_of_getElem? (i := 2) rfl)) (hw _ (List.mem_of_getElem? (i := 3) rfl)) (hw _ (List.mem_of_getElem? (i := 4) rfl)) (by decide) (argsL := [(.long q0), (.int (0 : Int32))]) (rest := [(.int (0 : Int32)), (.ref b1)]) (rm1 l Z a0 hw q0 (0 : Int32) h1 n0) (W := 2) (by decide) (by decide) (g := (mkF m 11 #[.val (.long q0), .second, .val (.long q1), .second, .val (.int p2), .val (.ref b1), .unset, .unset, .unset, .unset, .unset, .unset, .unset, .unset, .unset, .unset] [(.int (0 : Int32)), (.long q0), (.int (0 : Int32)), (.ref b1)])) rfl (by rw [hml]; rfl) pd_2 rfl rfl (by show 2 * 0 + _ ≤ _; exact Nat.le_of_eq rfl) (hb hby at_11) e1 (by decide) (by decide) N0
  refine own_go (T' := T2) (g' := (mkF m 14 #[.val (.long q0), .second, .val (.long q1), .second, .val (.int p2), .val (.ref b1), .unset, .unset, .unset, .unset, .unset, .unset, .unset, .unset, .unset, .unset] [(.int (f1_0 q0 (0 : Int32))), (.int (0 : Int32)), (.ref b1)])) st2 ?_
  obtain ⟨c0, h_c0⟩ : ∃ z : Int32, z = (f1_0 q0 (0 : Int32)) := ⟨_, rfl⟩
  rw [← h_c0]
  have n_c0 : nar .char c0 = c0 := by rw [h_c0]; exact own_pick _ _
  obtain ⟨T3, h3, L3, X3, N3, e3, W3, Y3, st3⟩ := own_stC X2 hx hZ e2 V_b1_1 (j := (0 : Int32)) (by decide) 0 rfl (Nat.le_of_ble_eq_true rfl) N2 ga_b1 (g := (mkF m 14 #[.val (.long q0), .second, .val (.long q1), .second, .val (.int p2), .val (.ref b1), .unset, .unset, .unset, .unset, .unset, .unset, .unset, .unset, .unset, .unset] [(.int c0), (.int (0 : Int32)), (.ref b1)])) rfl rfl (hb hby at_14)
  rw [n_c0] at W3 Y3
  have V_b1_3 : Arv Z h3 b1 k1 .char (6 : Int32) [(.int c0), (.int (0 : Int32)), (.int (0 : Int32)), (.int (0 : Int32)), (.int (0 : Int32)), (.int (0 : Int32))] (.int (0 : Int32)) := Y3
  have sz_3 := Nat.le_trans sz_1 (Nat.le_of_eq (Wr.size W3).symm)
  refine own_go (T' := T3) (g' := (mkF m 15 #[.val (.long q0), .second, .val (.long q1), .second, .val (.int p2), .val (.ref b1), .unset, .unset, .unset, .unset, .unset, .unset, .unset, .unset, .unset, .unset] [])) st3 ?_
  refine own_go (T' := T3) (g' := (mkF m 21 #[.val (.long q0), .second, .val (.long q1), .second, .val (.int p2), .val (.ref b1), .unset, .unset, .unset, .unset, .unset, .unset, .unset, .unset, .unset, .unset] [(.int (11 : Int32)), (.long q0), (.int (1 : Int32)), (.ref b1)])) (fun t k => ?_) ?_
  · show Steps p.tables e below (T3.setTop (mkF m 15 #[.val (.long q0), .second, .val (.long q1), .second, .val (.int p2), .val (.ref b1), .unset, .unset, .unset, .unset, .unset, .unset, .unset, .unset, .unset, .unset] [])) t
    refine XS.aload X3.here hx rfl (hb hby at_15) rfl rfl ?_
    show Steps p.tables e below (T3.setTop (mkF m 17 #[.val (.long q0), .second, .val (.long q1), .second, .val (.int p2), .val (.ref b1), .unset, .unset, .unset, .unset, .unset, .unset, .unset, .unset, .unset, .unset] [(.ref b1)])) _
    refine XS.iconst X3.here hx rfl (hb hby at_17) ?_
    show Steps p.tables e below (T3.setTop (mkF m 18 #[.val (.long q0), .second, .val (.long q1), .second, .val (.int p2), .val (.ref b1), .unset, .unset, .unset, .unset, .unset, .unset, .unset, .unset, .unset, .unset] [(.int (1 : Int32)), (.ref b1)])) _
    refine XS.lloadN X3.here hx rfl (hb hby at_18) rfl ?_
    show Steps p.tables e below (T3.setTop (mkF m 19 #[.val (.long q0), .second, .val (.long q1), .second, .val (.int p2), .val (.ref b1), .unset, .unset, .unset, .unset, .unset, .unset, .unset, .unset, .unset, .unset] [(.long q0), (.int (1 : Int32)), (.ref b1)])) _
    refine XS.bipush X3.here hx rfl (hb hby at_19) ?_
    show Steps p.tables e below (T3.setTop (mkF m 21 #[.val (.long q0), .second, .val (.long q1), .second, .val (.int p2), .val (.ref b1), .unset, .unset, .unset, .unset, .unset, .unset, .unset, .unset, .unset, .unset] [(.int (11 : Int32)), (.long q0), (.int (1 : Int32)), (.ref b1)])) _
    exact k
  obtain ⟨_, T4, L4, X4, N4, ⟨rfl, e4⟩, st4⟩ := own_callS X3 hx hZ hown (hw _ (List.mem_of_getElem? (i := 1) rfl)) (hw _ (List.mem_of_getElem? (i := 2) rfl)) (hw _ (List.mem_of_getElem? (i := 3) rfl)) (hw _ (List.mem_of_getElem? (i := 4) rfl)) (by decide) (argsL := [(.long q0), (.int (11 : Int32))]) (rest := [(.int (1 : Int32)), (.ref b1)]) (rm1 l Z a0 hw q0 (11 : Int32) h3 n0) (W := 2) (by decide) (by decide) (g := (mkF m 21 #[.val (.long q0), .second, .val (.long q1), .second, .val (.int p2), .val (.ref b1), .unset, .unset, .unset, .unset, .unset, .unset, .unset, .unset, .unset, .unset] [(.int (11 : Int32)), (.long q0), (.int (1 : Int32)), (.ref b1)])) rfl (by rw [hml]; rfl) pd_2 rfl rfl (by show 2 * 0 + _ ≤ _; exact Nat.le_of_eq rfl) (hb hby at_21) e3 (by decide) (by decide) N3
  refine own_go (T' := T4) (g' := (mkF m 24 #[.val (.long q0), .second, .val (.long q1), .second, .val (.int p2), .val (.ref b1), .unset, .unset, .unset, .unset, .unset, .unset, .unset, .unset, .unset, .unset] [(.int (f1_0 q0 (11 : Int32))), (.int (1 : Int32)), (.ref b1)])) st4 ?_
  obtain ⟨c1, h_c1⟩ : ∃ z : Int32, z = (f1_0 q0 (11 : Int32)) := ⟨_, rfl⟩
  rw [← h_c1]
  have n_c1 : nar .char c1 = c1 := by rw [h_c1]; exact own_pick _ _
  obtain ⟨T5, h5, L5, X5, N5, e5, W5, Y5, st5⟩ := own_stC X4 hx hZ e4 V_b1_3 (j := (1 : Int32)) (by decide) 1 rfl (Nat.le_of_ble_eq_true rfl) N4 ga_b1 (g := (mkF m 24 #[.val (.long q0), .second, .val (.long q1), .second, .val (.int p2), .val (.ref b1), .unset, .unset, .unset, .unset, .unset, .unset, .unset, .unset, .unset, .unset] [(.int c1), (.int (1 : Int32)), (.ref b1)])) rfl rfl (hb hby at_24)
  rw [n_c1] at W5 Y5
  have V_b1_5 : Arv Z h5 b1 k1 .char (6 : Int32) [(.int c0), (.int c1), (.int (0 : Int32)), (.int (0 : Int32)), (.int (0 : Int32)), (.int (0 : Int32))] (.int (0 : Int32)) := Y5
  have sz_5 := Nat.le_trans sz_3 (Nat.le_of_eq (Wr.size W5).symm)
  refine own_go (T' := T5) (g' := (mkF m 25 #[.val (.long q0), .second, .val (.long q1), .second, .val (.int p2), .val (.ref b1), .unset, .unset, .unset, .unset, .unset, .unset, .unset, .unset, .unset, .unset] [])) st5 ?_
  refine own_go (T' := T5) (g' := (mkF m 31 #[.val (.long q0), .second, .val (.long q1), .second, .val (.int p2), .val (.ref b1), .unset, .unset, .unset, .unset, .unset, .unset, .unset, .unset, .unset, .unset] [(.int (22 : Int32)), (.long q0), (.int (2 : Int32)), (.ref b1)])) (fun t k => ?_) ?_
  · show Steps p.tables e below (T5.setTop (mkF m 25 #[.val (.long q0), .second, .val (.long q1), .second, .val (.int p2), .val (.ref b1), .unset, .unset, .unset, .unset, .unset, .unset, .unset, .unset, .unset, .unset] [])) t
    refine XS.aload X5.here hx rfl (hb hby at_25) rfl rfl ?_
    show Steps p.tables e below (T5.setTop (mkF m 27 #[.val (.long q0), .second, .val (.long q1), .second, .val (.int p2), .val (.ref b1), .unset, .unset, .unset, .unset, .unset, .unset, .unset, .unset, .unset, .unset] [(.ref b1)])) _
    refine XS.iconst X5.here hx rfl (hb hby at_27) ?_
    show Steps p.tables e below (T5.setTop (mkF m 28 #[.val (.long q0), .second, .val (.long q1), .second, .val (.int p2), .val (.ref b1), .unset, .unset, .unset, .unset, .unset, .unset, .unset, .unset, .unset, .unset] [(.int (2 : Int32)), (.ref b1)])) _
    refine XS.lloadN X5.here hx rfl (hb hby at_28) rfl ?_
    show Steps p.tables e below (T5.setTop (mkF m 29 #[.val (.long q0), .second, .val (.long q1), .second, .val (.int p2), .val (.ref b1), .unset, .unset, .unset, .unset, .unset, .unset, .unset, .unset, .unset, .unset] [(.long q0), (.int (2 : Int32)), (.ref b1)])) _
    refine XS.bipush X5.here hx rfl (hb hby at_29) ?_
    show Steps p.tables e below (T5.setTop (mkF m 31 #[.val (.long q0), .second, .val (.long q1), .second, .val (.int p2), .val (.ref b1), .unset, .unset, .unset, .unset, .unset, .unset, .unset, .unset, .unset, .unset] [(.int (22 : Int32)), (.long q0), (.int (2 : Int32)), (.ref b1)])) _
    exact k
  obtain ⟨_, T6, L6, X6, N6, ⟨rfl, e6⟩, st6⟩ := own_callS X5 hx hZ hown (hw _ (List.mem_of_getElem? (i := 1) rfl)) (hw _ (List.mem_of_getElem? (i := 2) rfl)) (hw _ (List.mem_of_getElem? (i := 3) rfl)) (hw _ (List.mem_of_getElem? (i := 4) rfl)) (by decide) (argsL := [(.long q0), (.int (22 : Int32))]) (rest := [(.int (2 : Int32)), (.ref b1)]) (rm1 l Z a0 hw q0 (22 : Int32) h5 n0) (W := 2) (by decide) (by decide) (g := (mkF m 31 #[.val (.long q0), .second, .val (.long q1), .second, .val (.int p2), .val (.ref b1), .unset, .unset, .unset, .unset, .unset, .unset, .unset, .unset, .unset, .unset] [(.int (22 : Int32)), (.long q0), (.int (2 : Int32)), (.ref b1)])) rfl (by rw [hml]; rfl) pd_2 rfl rfl (by show 2 * 0 + _ ≤ _; exact Nat.le_of_eq rfl) (hb hby at_31) e5 (by decide) (by decide) N5
  refine own_go (T' := T6) (g' := (mkF m 34 #[.val (.long q0), .second, .val (.long q1), .second, .val (.int p2), .val (.ref b1), .unset, .unset, .unset, .unset, .unset, .unset, .unset, .unset, .unset, .unset] [(.int (f1_0 q0 (22 : Int32))), (.int (2 : Int32)), (.ref b1)])) st6 ?_
  obtain ⟨c2, h_c2⟩ : ∃ z : Int32, z = (f1_0 q0 (22 : Int32)) := ⟨_, rfl⟩
  rw [← h_c2]
  have n_c2 : nar .char c2 = c2 := by rw [h_c2]; exact own_pick _ _
  obtain ⟨T7, h7, L7, X7, N7, e7, W7, Y7, st7⟩ := own_stC X6 hx hZ e6 V_b1_5 (j := (2 : Int32)) (by decide) 2 rfl (Nat.le_of_ble_eq_true rfl) N6 ga_b1 (g := (mkF m 34 #[.val (.long q0), .second, .val (.long q1), .second, .val (.int p2), .val (.ref b1), .unset, .unset, .unset, .unset, .unset, .unset, .unset, .unset, .unset, .unset] [(.int c2), (.int (2 : Int32)), (.ref b1)])) rfl rfl (hb hby at_34)
  rw [n_c2] at W7 Y7
  have V_b1_7 : Arv Z h7 b1 k1 .char (6 : Int32) [(.int c0), (.int c1), (.int c2), (.int (0 : Int32)), (.int (0 : Int32)), (.int (0 : Int32))] (.int (0 : Int32)) := Y7
  have sz_7 := Nat.le_trans sz_5 (Nat.le_of_eq (Wr.size W7).symm)
  refine own_go (T' := T7) (g' := (mkF m 35 #[.val (.long q0), .second, .val (.long q1), .second, .val (.int p2), .val (.ref b1), .unset, .unset, .unset, .unset, .unset, .unset, .unset, .unset, .unset, .unset] [])) st7 ?_
  refine own_go (T' := T7) (g' := (mkF m 40 #[.val (.long q0), .second, .val (.long q1), .second, .val (.int p2), .val (.ref b1), .unset, .unset, .unset, .unset, .unset, .unset, .unset, .unset, .unset, .unset] [(.int (0 : Int32)), (.long q1), (.int (3 : Int32)), (.ref b1)])) (fun t k => ?_) ?_
  · show Steps p.tables e below (T7.setTop (mkF m 35 #[.val (.long q0), .second, .val (.long q1), .second, .val (.int p2), .val (.ref b1), .unset, .unset, .unset, .unset, .unset, .unset, .unset, .unset, .unset, .unset] [])) t
    refine XS.aload X7.here hx rfl (hb hby at_35) rfl rfl ?_
    show Steps p.tables e below (T7.setTop (mkF m 37 #[.val (.long q0), .second, .val (.long q1), .second, .val (.int p2), .val (.ref b1), .unset, .unset, .unset, .unset, .unset, .unset, .unset, .unset, .unset, .unset] [(.ref b1)])) _
    refine XS.iconst X7.here hx rfl (hb hby at_37) ?_
    show Steps p.tables e below (T7.setTop (mkF m 38 #[.val (.long q0), .second, .val (.long q1), .second, .val (.int p2), .val (.ref b1), .unset, .unset, .unset, .unset, .unset, .unset, .unset, .unset, .unset, .unset] [(.int (3 : Int32)), (.ref b1)])) _
    refine XS.lloadN X7.here hx rfl (hb hby at_38) rfl ?_
    show Steps p.tables e below (T7.setTop (mkF m 39 #[.val (.long q0), .second, .val (.long q1), .second, .val (.int p2), .val (.ref b1), .unset, .unset, .unset, .unset, .unset, .unset, .unset, .unset, .unset, .unset] [(.long q1), (.int (3 : Int32)), (.ref b1)])) _
    refine XS.iconst X7.here hx rfl (hb hby at_39) ?_
    show Steps p.tables e below (T7.setTop (mkF m 40 #[.val (.long q0), .second, .val (.long q1), .second, .val (.int p2), .val (.ref b1), .unset, .unset, .unset, .unset, .unset, .unset, .unset, .unset, .unset, .unset] [(.int (0 : Int32)), (.long q1), (.int (3 : Int32)), (.ref b1)])) _
    exact k
  obtain ⟨_, T8, L8, X8, N8, ⟨rfl, e8⟩, st8⟩ := own_callS X7 hx hZ hown (hw _ (List.mem_of_getElem? (i := 1) rfl)) (hw _ (List.mem_of_getElem? (i := 2) rfl)) (hw _ (List.mem_of_getElem? (i := 3) rfl)) (hw _ (List.mem_of_getElem? (i := 4) rfl)) (by decide) (argsL := [(.long q1), (.int (0 : Int32))]) (rest := [(.int (3 : Int32)), (.ref b1)]) (rm1 l Z a0 hw q1 (0 : Int32) h7 n0) (W := 2) (by decide) (by decide) (g := (mkF m 40 #[.val (.long q0), .second, .val (.long q1), .second, .val (.int p2), .val (.ref b1), .unset, .unset, .unset, .unset, .unset, .unset, .unset, .unset, .unset, .unset] [(.int (0 : Int32)), (.long q1), (.int (3 : Int32)), (.ref b1)])) rfl (by rw [hml]; rfl) pd_2 rfl rfl (by show 2 * 0 + _ ≤ _; exact Nat.le_of_eq rfl) (hb hby at_40) e7 (by decide) (by decide) N7
  refine own_go (T' := T8) (g' := (mkF m 43 #[.val (.long q0), .second, .val (.long q1), .second, .val (.int p2), .val (.ref b1), .unset, .unset, .unset, .unset, .unset, .unset, .unset, .unset, .unset, .unset] [(.int (f1_0 q1 (0 : Int32))), (.int (3 : Int32)), (.ref b1)])) st8 ?_
  obtain ⟨c3, h_c3⟩ : ∃ z : Int32, z = (f1_0 q1 (0 : Int32)) := ⟨_, rfl⟩
  rw [← h_c3]
  have n_c3 : nar .char c3 = c3 := by rw [h_c3]; exact own_pick _ _
  obtain ⟨T9, h9, L9, X9, N9, e9, W9, Y9, st9⟩ := own_stC X8 hx hZ e8 V_b1_7 (j := (3 : Int32)) (by decide) 3 rfl (Nat.le_of_ble_eq_true rfl) N8 ga_b1 (g := (mkF m 43 #[.val (.long q0), .second, .val (.long q1), .second, .val (.int p2), .val (.ref b1), .unset, .unset, .unset, .unset, .unset, .unset, .unset, .unset, .unset, .unset] [(.int c3), (.int (3 : Int32)), (.ref b1)])) rfl rfl (hb hby at_43)
  rw [n_c3] at W9 Y9
  have V_b1_9 : Arv Z h9 b1 k1 .char (6 : Int32) [(.int c0), (.int c1), (.int c2), (.int c3), (.int (0 : Int32)), (.int (0 : Int32))] (.int (0 : Int32)) := Y9
  have sz_9 := Nat.le_trans sz_7 (Nat.le_of_eq (Wr.size W9).symm)
  refine own_go (T' := T9) (g' := (mkF m 44 #[.val (.long q0), .second, .val (.long q1), .second, .val (.int p2), .val (.ref b1), .unset, .unset, .unset, .unset, .unset, .unset, .unset, .unset, .unset, .unset] [])) st9 ?_
  refine own_go (T' := T9) (g' := (mkF m 50 #[.val (.long q0), .second, .val (.long q1), .second, .val (.int p2), .val (.ref b1), .unset, .unset, .unset, .unset, .unset, .unset, .unset, .unset, .unset, .unset] [(.int (11 : Int32)), (.long q1), (.int (4 : Int32)), (.ref b1)])) (fun t k => ?_) ?_
  · show Steps p.tables e below (T9.setTop (mkF m 44 #[.val (.long q0), .second, .val (.long q1), .second, .val (.int p2), .val (.ref b1), .unset, .unset, .unset, .unset, .unset, .unset, .unset, .unset, .unset, .unset] [])) t
    refine XS.aload X9.here hx rfl (hb hby at_44) rfl rfl ?_
    show Steps p.tables e below (T9.setTop (mkF m 46 #[.val (.long q0), .second, .val (.long q1), .second, .val (.int p2), .val (.ref b1), .unset, .unset, .unset, .unset, .unset, .unset, .unset, .unset, .unset, .unset] [(.ref b1)])) _
    refine XS.iconst X9.here hx rfl (hb hby at_46) ?_
    show Steps p.tables e below (T9.setTop (mkF m 47 #[.val (.long q0), .second, .val (.long q1), .second, .val (.int p2), .val (.ref b1), .unset, .unset, .unset, .unset, .unset, .unset, .unset, .unset, .unset, .unset] [(.int (4 : Int32)), (.ref b1)])) _
    refine XS.lloadN X9.here hx rfl (hb hby at_47) rfl ?_
    show Steps p.tables e below (T9.setTop (mkF m 48 #[.val (.long q0), .second, .val (.long q1), .second, .val (.int p2), .val (.ref b1), .unset, .unset, .unset, .unset, .unset, .unset, .unset, .unset, .unset, .unset] [(.long q1), (.int (4 : Int32)), (.ref b1)])) _
    refine XS.bipush X9.here hx rfl (hb hby at_48) ?_
    show Steps p.tables e below (T9.setTop (mkF m 50 #[.val (.long q0), .second, .val (.long q1), .second, .val (.int p2), .val (.ref b1), .unset, .unset, .unset, .unset, .unset, .unset, .unset, .unset, .unset, .unset] [(.int (11 : Int32)), (.long q1), (.int (4 : Int32)), (.ref b1)])) _
    exact k
  obtain ⟨_, T10, L10, X10, N10, ⟨rfl, e10⟩, st10⟩ := own_callS X9 hx hZ hown (hw _ (List.mem_of_getElem? (i := 1) rfl)) (hw _ (List.mem_of_getElem? (i := 2) rfl)) (hw _ (List.mem_of_getElem? (i := 3) rfl)) (hw _ (List.mem_of_getElem? (i := 4) rfl)) (by decide) (argsL := [(.long q1), (.int (11 : Int32))]) (rest := [(.int (4 : Int32)), (.ref b1)]) (rm1 l Z a0 hw q1 (11 : Int32) h9 n0) (W := 2) (by decide) (by decide) (g := (mkF m 50 #[.val (.long q0), .second, .val (.long q1), .second, .val (.int p2), .val (.ref b1), .unset, .unset, .unset, .unset, .unset, .unset, .unset, .unset, .unset, .unset] [(.int (11 : Int32)), (.long q1), (.int (4 : Int32)), (.ref b1)])) rfl (by rw [hml]; rfl) pd_2 rfl rfl (by show 2 * 0 + _ ≤ _; exact Nat.le_of_eq rfl) (hb hby at_50) e9 (by decide) (by decide) N9
  refine own_go (T' := T10) (g' := (mkF m 53 #[.val (.long q0), .second, .val (.long q1), .second, .val (.int p2), .val (.ref b1), .unset, .unset, .unset, .unset, .unset, .unset, .unset, .unset, .unset, .unset] [(.int (f1_0 q1 (11 : Int32))), (.int (4 : Int32)), (.ref b1)])) st10 ?_
  obtain ⟨c4, h_c4⟩ : ∃ z : Int32, z = (f1_0 q1 (11 : Int32)) := ⟨_, rfl⟩
  rw [← h_c4]
  have n_c4 : nar .char c4 = c4 := by rw [h_c4]; exact own_pick _ _
  obtain ⟨T11, h11, L11, X11, N11, e11, W11, Y11, st11⟩ := own_stC X10 hx hZ e10 V_b1_9 (j := (4 : Int32)) (by decide) 4 rfl (Nat.le_of_ble_eq_true rfl) N10 ga_b1 (g := (mkF m 53 #[.val (.long q0), .second, .val (.long q1), .second, .val (.int p2), .val (.ref b1), .unset, .unset, .unset, .unset, .unset, .unset, .unset, .unset, .unset, .unset] [(.int c4), (.int (4 : Int32)), (.ref b1)])) rfl rfl (hb hby at_53)
  rw [n_c4] at W11 Y11
  have V_b1_11 : Arv Z h11 b1 k1 .char (6 : Int32) [(.int c0), (.int c1), (.int c2), (.int c3), (.int c4), (.int (0 : Int32))] (.int (0 : Int32)) := Y11
  have sz_11 := Nat.le_trans sz_9 (Nat.le_of_eq (Wr.size W11).symm)
  refine own_go (T' := T11) (g' := (mkF m 54 #[.val (.long q0), .second, .val (.long q1), .second, .val (.int p2), .val (.ref b1), .unset, .unset, .unset, .unset, .unset, .unset, .unset, .unset, .unset, .unset] [])) st11 ?_
  refine own_go (T' := T11) (g' := (mkF m 60 #[.val (.long q0), .second, .val (.long q1), .second, .val (.int p2), .val (.ref b1), .unset, .unset, .unset, .unset, .unset, .unset, .unset, .unset, .unset, .unset] [(.int (22 : Int32)), (.long q1), (.int (5 : Int32)), (.ref b1)])) (fun t k => ?_) ?_
  · show Steps p.tables e below (T11.setTop (mkF m 54 #[.val (.long q0), .second, .val (.long q1), .second, .val (.int p2), .val (.ref b1), .unset, .unset, .unset, .unset, .unset, .unset, .unset, .unset, .unset, .unset] [])) t
    refine XS.aload X11.here hx rfl (hb hby at_54) rfl rfl ?_
    show Steps p.tables e below (T11.setTop (mkF m 56 #[.val (.long q0), .second, .val (.long q1), .second, .val (.int p2), .val (.ref b1), .unset, .unset, .unset, .unset, .unset, .unset, .unset, .unset, .unset, .unset] [(.ref b1)])) _
    refine XS.iconst X11.here hx rfl (hb hby at_56) ?_
    show Steps p.tables e below (T11.setTop (mkF m 57 #[.val (.long q0), .second, .val (.long q1), .second, .val (.int p2), .val (.ref b1), .unset, .unset, .unset, .unset, .unset, .unset, .unset, .unset, .unset, .unset] [(.int (5 : Int32)), (.ref b1)])) _
    refine XS.lloadN X11.here hx rfl (hb hby at_57) rfl ?_
    show Steps p.tables e below (T11.setTop (mkF m 58 #[.val (.long q0), .second, .val (.long q1), .second, .val (.int p2), .val (.ref b1), .unset, .unset, .unset, .unset, .unset, .unset, .unset, .unset, .unset, .unset] [(.long q1), (.int (5 : Int32)), (.ref b1)])) _
    refine XS.bipush X11.here hx rfl (hb hby at_58) ?_
    show Steps p.tables e below (T11.setTop (mkF m 60 #[.val (.long q0), .second, .val (.long q1), .second, .val (.int p2), .val (.ref b1), .unset, .unset, .unset, .unset, .unset, .unset, .unset, .unset, .unset, .unset] [(.int (22 : Int32)), (.long q1), (.int (5 : Int32)), (.ref b1)])) _
    exact k
  obtain ⟨_, T12, L12, X12, N12, ⟨rfl, e12⟩, st12⟩ := own_callS X11 hx hZ hown (hw _ (List.mem_of_getElem? (i := 1) rfl)) (hw _ (List.mem_of_getElem? (i := 2) rfl)) (hw _ (List.mem_of_getElem? (i := 3) rfl)) (hw _ (List.mem_of_getElem? (i := 4) rfl)) (by decide) (argsL := [(.long q1), (.int (22 : Int32))]) (rest := [(.int (5 : Int32)), (.ref b1)]) (rm1 l Z a0 hw q1 (22 : Int32) h11 n0) (W := 2) (by decide) (by decide) (g := (mkF m 60 #[.val (.long q0), .second, .val (.long q1), .second, .val (.int p2), .val (.ref b1), .unset, .unset, .unset, .unset, .unset, .unset, .unset, .unset, .unset, .unset] [(.int (22 : Int32)), (.long q1), (.int (5 : Int32)), (.ref b1)])) rfl (by rw [hml]; rfl) pd_2 rfl rfl (by show 2 * 0 + _ ≤ _; exact Nat.le_of_eq rfl) (hb hby at_60) e11 (by decide) (by decide) N11
  refine own_go (T' := T12) (g' := (mkF m 63 #[.val (.long q0), .second, .val (.long q1), .second, .val (.int p2), .val (.ref b1), .unset, .unset, .unset, .unset, .unset, .unset, .unset, .unset, .unset, .unset] [(.int (f1_0 q1 (22 : Int32))), (.int (5 : Int32)), (.ref b1)])) st12 ?_
  obtain ⟨c5, h_c5⟩ : ∃ z : Int32, z = (f1_0 q1 (22 : Int32)) := ⟨_, rfl⟩
  rw [← h_c5]
  have n_c5 : nar .char c5 = c5 := by rw [h_c5]; exact own_pick _ _
  obtain ⟨T13, h13, L13, X13, N13, e13, W13, Y13, st13⟩ := own_stC X12 hx hZ e12 V_b1_11 (j := (5 : Int32)) (by decide) 5 rfl (Nat.le_of_ble_eq_true rfl) N12 ga_b1 (g := (mkF m 63 #[.val (.long q0), .second, .val (.long q1), .second, .val (.int p2), .val (.ref b1), .unset, .unset, .unset, .unset, .unset, .unset, .unset, .unset, .unset, .unset] [(.int c5), (.int (5 : Int32)), (.ref b1)])) rfl rfl (hb hby at_63)
  rw [n_c5] at W13 Y13
  have V_b1_13 : Arv Z h13 b1 k1 .char (6 : Int32) [(.int c0), (.int c1), (.int c2), (.int c3), (.int c4), (.int c5)] (.int (0 : Int32)) := Y13
  have sz_13 := Nat.le_trans sz_11 (Nat.le_of_eq (Wr.size W13).symm)
  refine own_go (T' := T13) (g' := (mkF m 64 #[.val (.long q0), .second, .val (.long q1), .second, .val (.int p2), .val (.ref b1), .unset, .unset, .unset, .unset, .unset, .unset, .unset, .unset, .unset, .unset] [])) st13 ?_
  refine own_go (T' := T13) (g' := (mkF m 74 #[.val (.long q0), .second, .val (.long q1), .second, .val (.int p2), .val (.ref b1), .val (.int ((p2 &&& (2147483647 : Int32)) % (6 : Int32))), .unset, .unset, .unset, .unset, .unset, .unset, .unset, .unset, .unset] [])) (fun t k => ?_) ?_
  · show Steps p.tables e below (T13.setTop (mkF m 64 #[.val (.long q0), .second, .val (.long q1), .second, .val (.int p2), .val (.ref b1), .unset, .unset, .unset, .unset, .unset, .unset, .unset, .unset, .unset, .unset] [])) t
    refine XS.iload X13.here hx rfl (hb hby at_64) rfl ?_
    show Steps p.tables e below (T13.setTop (mkF m 66 #[.val (.long q0), .second, .val (.long q1), .second, .val (.int p2), .val (.ref b1), .unset, .unset, .unset, .unset, .unset, .unset, .unset, .unset, .unset, .unset] [(.int p2)])) _
    refine X13.ldcInt hx hown (mvT hZ (hw _ (List.mem_of_getElem? (i := 6) rfl))) (g := (mkF m 66 #[.val (.long q0), .second, .val (.long q1), .second, .val (.int p2), .val (.ref b1), .unset, .unset, .unset, .unset, .unset, .unset, .unset, .unset, .unset, .unset] [(.int p2)])) rfl (hb hby at_66) _ ?_
    show Steps p.tables e below (T13.setTop (mkF m 68 #[.val (.long q0), .second, .val (.long q1), .second, .val (.int p2), .val (.ref b1), .unset, .unset, .unset, .unset, .unset, .unset, .unset, .unset, .unset, .unset] [(.int (2147483647 : Int32)), (.int p2)])) _
    refine XS.iand X13.here hx rfl (hb hby at_68) rfl ?_
    show Steps p.tables e below (T13.setTop (mkF m 69 #[.val (.long q0), .second, .val (.long q1), .second, .val (.int p2), .val (.ref b1), .unset, .unset, .unset, .unset, .unset, .unset, .unset, .unset, .unset, .unset] [(.int (p2 &&& (2147483647 : Int32)))])) _
    refine XS.bipush X13.here hx rfl (hb hby at_69) ?_
    show Steps p.tables e below (T13.setTop (mkF m 71 #[.val (.long q0), .second, .val (.long q1), .second, .val (.int p2), .val (.ref b1), .unset, .unset, .unset, .unset, .unset, .unset, .unset, .unset, .unset, .unset] [(.int (6 : Int32)), (.int (p2 &&& (2147483647 : Int32)))])) _
    refine iremM X13 hx rfl (hb hby at_71) rfl (by decide) ?_
    show Steps p.tables e below (T13.setTop (mkF m 72 #[.val (.long q0), .second, .val (.long q1), .second, .val (.int p2), .val (.ref b1), .unset, .unset, .unset, .unset, .unset, .unset, .unset, .unset, .unset, .unset] [(.int ((p2 &&& (2147483647 : Int32)) % (6 : Int32)))])) _
    refine XS.istore X13.here hx rfl (hb hby at_72) rfl (l' := #[.val (.long q0), .second, .val (.long q1), .second, .val (.int p2), .val (.ref b1), .val (.int ((p2 &&& (2147483647 : Int32)) % (6 : Int32))), .unset, .unset, .unset, .unset, .unset, .unset, .unset, .unset, .unset]) rfl ?_
    show Steps p.tables e below (T13.setTop (mkF m 74 #[.val (.long q0), .second, .val (.long q1), .second, .val (.int p2), .val (.ref b1), .val (.int ((p2 &&& (2147483647 : Int32)) % (6 : Int32))), .unset, .unset, .unset, .unset, .unset, .unset, .unset, .unset, .unset] [])) _
    exact k
  obtain ⟨pv, h_pv⟩ : ∃ z : Int32, z = ((p2 &&& (2147483647 : Int32)) % (6 : Int32)) := ⟨_, rfl⟩
  rw [← h_pv]
  obtain ⟨pN, hpv, hp6⟩ := own_p p2 pv h_pv
  subst hpv
  refine own_go (T' := T13) (g' := (mkF m 83 #[.val (.long q0), .second, .val (.long q1), .second, .val (.int p2), .val (.ref b1), .val (.int (Int32.ofNat pN)), .val (.int (0 : Int32)), .unset, .unset, .unset, .unset, .unset, .unset, .unset, .unset] [(.int (6 : Int32)), (.int ((Int32.ofNat pN) + (1 : Int32)))])) (fun t k => ?_) ?_
  · show Steps p.tables e below (T13.setTop (mkF m 74 #[.val (.long q0), .second, .val (.long q1), .second, .val (.int p2), .val (.ref b1), .val (.int (Int32.ofNat pN)), .unset, .unset, .unset, .unset, .unset, .unset, .unset, .unset, .unset] [])) t
    refine XS.iconst X13.here hx rfl (hb hby at_74) ?_
    show Steps p.tables e below (T13.setTop (mkF m 75 #[.val (.long q0), .second, .val (.long q1), .second, .val (.int p2), .val (.ref b1), .val (.int (Int32.ofNat pN)), .unset, .unset, .unset, .unset, .unset, .unset, .unset, .unset, .unset] [(.int (0 : Int32))])) _
    refine XS.istore X13.here hx rfl (hb hby at_75) rfl (l' := #[.val (.long q0), .second, .val (.long q1), .second, .val (.int p2), .val (.ref b1), .val (.int (Int32.ofNat pN)), .val (.int (0 : Int32)), .unset, .unset, .unset, .unset, .unset, .unset, .unset, .unset]) rfl ?_
    show Steps p.tables e below (T13.setTop (mkF m 77 #[.val (.long q0), .second, .val (.long q1), .second, .val (.int p2), .val (.ref b1), .val (.int (Int32.ofNat pN)), .val (.int (0 : Int32)), .unset, .unset, .unset, .unset, .unset, .unset, .unset, .unset] [])) _
    refine XS.iload X13.here hx rfl (hb hby at_77) rfl ?_
    show Steps p.tables e below (T13.setTop (mkF m 79 #[.val (.long q0), .second, .val (.long q1), .second, .val (.int p2), .val (.ref b1), .val (.int (Int32.ofNat pN)), .val (.int (0 : Int32)), .unset, .unset, .unset, .unset, .unset, .unset, .unset, .unset] [(.int (Int32.ofNat pN))])) _
    refine XS.iconst X13.here hx rfl (hb hby at_79) ?_
    show Steps p.tables e below (T13.setTop (mkF m 80 #[.val (.long q0), .second, .val (.long q1), .second, .val (.int p2), .val (.ref b1), .val (.int (Int32.ofNat pN)), .val (.int (0 : Int32)), .unset, .unset, .unset, .unset, .unset, .unset, .unset, .unset] [(.int (1 : Int32)), (.int (Int32.ofNat pN))])) _
    refine XS.iadd X13.here hx rfl (hb hby at_80) rfl ?_
    show Steps p.tables e below (T13.setTop (mkF m 81 #[.val (.long q0), .second, .val (.long q1), .second, .val (.int p2), .val (.ref b1), .val (.int (Int32.ofNat pN)), .val (.int (0 : Int32)), .unset, .unset, .unset, .unset, .unset, .unset, .unset, .unset] [(.int ((Int32.ofNat pN) + (1 : Int32)))])) _
    refine XS.bipush X13.here hx rfl (hb hby at_81) ?_
    show Steps p.tables e below (T13.setTop (mkF m 83 #[.val (.long q0), .second, .val (.long q1), .second, .val (.int p2), .val (.ref b1), .val (.int (Int32.ofNat pN)), .val (.int (0 : Int32)), .unset, .unset, .unset, .unset, .unset, .unset, .unset, .unset] [(.int (6 : Int32)), (.int ((Int32.ofNat pN) + (1 : Int32)))])) _
    exact k
  suffices w23 : ∀ (T23 : State) (L23 : List Loc) (X23 : Stand p l e room_1 s m #[(.long q0), (.long q1), (.int p2)] below meth c T23 L23 1 6) (e23 : T23.heap = h13) (N23 : Fr n0 L23) (b23_l7 : Int32) (b23_l8 : Slot) (h_b23_l7 : b23_l7 = (if ((Int32.ofNat pN) + (1 : Int32)) < (6 : Int32) then (if ([c0, c1, c2, c3, c4, c5].getD pN 0) = (10 : Int32) then (if (Int32.ofNat (own_adv [c0, c1, c2, c3, c4, c5] (own_adv [c0, c1, c2, c3, c4, c5] (own_adv [c0, c1, c2, c3, c4, c5] (own_adv [c0, c1, c2, c3, c4, c5] (own_adv [c0, c1, c2, c3, c4, c5] (pN + 1))))))) < (6 : Int32) then (if ([c0, c1, c2, c3, c4, c5].getD (own_adv [c0, c1, c2, c3, c4, c5] (own_adv [c0, c1, c2, c3, c4, c5] (own_adv [c0, c1, c2, c3, c4, c5] (own_adv [c0, c1, c2, c3, c4, c5] (own_adv [c0, c1, c2, c3, c4, c5] (pN + 1)))))) 0) = (60 : Int32) then ((Int32.ofNat (own_adv [c0, c1, c2, c3, c4, c5] (own_adv [c0, c1, c2, c3, c4, c5] (own_adv [c0, c1, c2, c3, c4, c5] (own_adv [c0, c1, c2, c3, c4, c5] (own_adv [c0, c1, c2, c3, c4, c5] (pN + 1))))))) - (Int32.ofNat pN)) else (0 : Int32)) else (0 : Int32)) else (0 : Int32)) else (0 : Int32))) (h_b23_l8 : One b23_l8), own_Ends p e below s n0 room_1.cells room_1.slots T23 (mkF m 171 #[.val (.long q0), .second, .val (.long q1), .second, .val (.int p2), .val (.ref b1), .val (.int (Int32.ofNat pN)), .val (.int b23_l7), b23_l8, .unset, .unset, .unset, .unset, .unset, .unset, .unset] []) own_Q0 by
    by_cases hm83_14 : ((Int32.ofNat pN) + (1 : Int32)) < (6 : Int32)
    · refine own_go (T' := T13) (g' := (mkF m 86 #[.val (.long q0), .second, .val (.long q1), .second, .val (.int p2), .val (.ref b1), .val (.int (Int32.ofNat pN)), .val (.int (0 : Int32)), .unset, .unset, .unset, .unset, .unset, .unset, .unset, .unset] [])) (fun t k => ?_) ?_
      · refine XS.icmpNo X13.here hx rfl (hb hby at_83) rfl (tlt hm83_14).2.1 ?_
        exact k
      refine own_go (T' := T13) (g' := (mkF m 93 #[.val (.long q0), .second, .val (.long q1), .second, .val (.int p2), .val (.ref b1), .val (.int (Int32.ofNat pN)), .val (.int (0 : Int32)), .unset, .unset, .unset, .unset, .unset, .unset, .unset, .unset] [(.int (10 : Int32)), (.int ([c0, c1, c2, c3, c4, c5].getD pN 0))])) (fun t k => ?_) ?_
      · show Steps p.tables e below (T13.setTop (mkF m 86 #[.val (.long q0), .second, .val (.long q1), .second, .val (.int p2), .val (.ref b1), .val (.int (Int32.ofNat pN)), .val (.int (0 : Int32)), .unset, .unset, .unset, .unset, .unset, .unset, .unset, .unset] [])) t
        refine XS.aload X13.here hx rfl (hb hby at_86) rfl rfl ?_
        show Steps p.tables e below (T13.setTop (mkF m 88 #[.val (.long q0), .second, .val (.long q1), .second, .val (.int p2), .val (.ref b1), .val (.int (Int32.ofNat pN)), .val (.int (0 : Int32)), .unset, .unset, .unset, .unset, .unset, .unset, .unset, .unset] [(.ref b1)])) _
        refine XS.iload X13.here hx rfl (hb hby at_88) rfl ?_
        show Steps p.tables e below (T13.setTop (mkF m 90 #[.val (.long q0), .second, .val (.long q1), .second, .val (.int p2), .val (.ref b1), .val (.int (Int32.ofNat pN)), .val (.int (0 : Int32)), .unset, .unset, .unset, .unset, .unset, .unset, .unset, .unset] [(.int (Int32.ofNat pN)), (.ref b1)])) _
        refine own_ldC X13 hx hZ e13 V_b1_13 (j := (Int32.ofNat pN)) (own_ix rfl hp6) (v := (.int ([c0, c1, c2, c3, c4, c5].getD pN 0))) (own_gd [c0, c1, c2, c3, c4, c5] hp6) (g := (mkF m 90 #[.val (.long q0), .second, .val (.long q1), .second, .val (.int p2), .val (.ref b1), .val (.int (Int32.ofNat pN)), .val (.int (0 : Int32)), .unset, .unset, .unset, .unset, .unset, .unset, .unset, .unset] [(.int (Int32.ofNat pN)), (.ref b1)])) rfl rfl (hb hby at_90) _ ?_
        show Steps p.tables e below (T13.setTop (mkF m 91 #[.val (.long q0), .second, .val (.long q1), .second, .val (.int p2), .val (.ref b1), .val (.int (Int32.ofNat pN)), .val (.int (0 : Int32)), .unset, .unset, .unset, .unset, .unset, .unset, .unset, .unset] [(.int ([c0, c1, c2, c3, c4, c5].getD pN 0))])) _
        refine XS.bipush X13.here hx rfl (hb hby at_91) ?_
        show Steps p.tables e below (T13.setTop (mkF m 93 #[.val (.long q0), .second, .val (.long q1), .second, .val (.int p2), .val (.ref b1), .val (.int (Int32.ofNat pN)), .val (.int (0 : Int32)), .unset, .unset, .unset, .unset, .unset, .unset, .unset, .unset] [(.int (10 : Int32)), (.int ([c0, c1, c2, c3, c4, c5].getD pN 0))])) _
        exact k
      by_cases hm93_15 : ([c0, c1, c2, c3, c4, c5].getD pN 0) = (10 : Int32)
      · refine own_go (T' := T13) (g' := (mkF m 96 #[.val (.long q0), .second, .val (.long q1), .second, .val (.int p2), .val (.ref b1), .val (.int (Int32.ofNat pN)), .val (.int (0 : Int32)), .unset, .unset, .unset, .unset, .unset, .unset, .unset, .unset] [])) (fun t k => ?_) ?_
        · refine XS.icmpNo X13.here hx rfl (hb hby at_93) rfl (teq hm93_15).2 ?_
          exact k
        refine own_go (T' := T13) (g' := (mkF m 106 #[.val (.long q0), .second, .val (.long q1), .second, .val (.int p2), .val (.ref b1), .val (.int (Int32.ofNat pN)), .val (.int (0 : Int32)), .val (.int ((Int32.ofNat pN) + (1 : Int32))), .unset, .unset, .unset, .unset, .unset, .unset, .unset] [(.int ((Int32.ofNat pN) + (1 : Int32))), (.ref b1)])) (fun t k => ?_) ?_
        · show Steps p.tables e below (T13.setTop (mkF m 96 #[.val (.long q0), .second, .val (.long q1), .second, .val (.int p2), .val (.ref b1), .val (.int (Int32.ofNat pN)), .val (.int (0 : Int32)), .unset, .unset, .unset, .unset, .unset, .unset, .unset, .unset] [])) t
          refine XS.iload X13.here hx rfl (hb hby at_96) rfl ?_
          show Steps p.tables e below (T13.setTop (mkF m 98 #[.val (.long q0), .second, .val (.long q1), .second, .val (.int p2), .val (.ref b1), .val (.int (Int32.ofNat pN)), .val (.int (0 : Int32)), .unset, .unset, .unset, .unset, .unset, .unset, .unset, .unset] [(.int (Int32.ofNat pN))])) _
          refine XS.iconst X13.here hx rfl (hb hby at_98) ?_
          show Steps p.tables e below (T13.setTop (mkF m 99 #[.val (.long q0), .second, .val (.long q1), .second, .val (.int p2), .val (.ref b1), .val (.int (Int32.ofNat pN)), .val (.int (0 : Int32)), .unset, .unset, .unset, .unset, .unset, .unset, .unset, .unset] [(.int (1 : Int32)), (.int (Int32.ofNat pN))])) _
          refine XS.iadd X13.here hx rfl (hb hby at_99) rfl ?_
          show Steps p.tables e below (T13.setTop (mkF m 100 #[.val (.long q0), .second, .val (.long q1), .second, .val (.int p2), .val (.ref b1), .val (.int (Int32.ofNat pN)), .val (.int (0 : Int32)), .unset, .unset, .unset, .unset, .unset, .unset, .unset, .unset] [(.int ((Int32.ofNat pN) + (1 : Int32)))])) _
          refine XS.istore X13.here hx rfl (hb hby at_100) rfl (l' := #[.val (.long q0), .second, .val (.long q1), .second, .val (.int p2), .val (.ref b1), .val (.int (Int32.ofNat pN)), .val (.int (0 : Int32)), .val (.int ((Int32.ofNat pN) + (1 : Int32))), .unset, .unset, .unset, .unset, .unset, .unset, .unset]) rfl ?_
          show Steps p.tables e below (T13.setTop (mkF m 102 #[.val (.long q0), .second, .val (.long q1), .second, .val (.int p2), .val (.ref b1), .val (.int (Int32.ofNat pN)), .val (.int (0 : Int32)), .val (.int ((Int32.ofNat pN) + (1 : Int32))), .unset, .unset, .unset, .unset, .unset, .unset, .unset] [])) _
          refine XS.aload X13.here hx rfl (hb hby at_102) rfl rfl ?_
          show Steps p.tables e below (T13.setTop (mkF m 104 #[.val (.long q0), .second, .val (.long q1), .second, .val (.int p2), .val (.ref b1), .val (.int (Int32.ofNat pN)), .val (.int (0 : Int32)), .val (.int ((Int32.ofNat pN) + (1 : Int32))), .unset, .unset, .unset, .unset, .unset, .unset, .unset] [(.ref b1)])) _
          refine XS.iload X13.here hx rfl (hb hby at_104) rfl ?_
          show Steps p.tables e below (T13.setTop (mkF m 106 #[.val (.long q0), .second, .val (.long q1), .second, .val (.int p2), .val (.ref b1), .val (.int (Int32.ofNat pN)), .val (.int (0 : Int32)), .val (.int ((Int32.ofNat pN) + (1 : Int32))), .unset, .unset, .unset, .unset, .unset, .unset, .unset] [(.int ((Int32.ofNat pN) + (1 : Int32))), (.ref b1)])) _
          exact k
        obtain ⟨_, T16, L16, X16, N16, ⟨rfl, e16⟩, st16⟩ := own_callS X13 hx hZ hown (hw _ (List.mem_of_getElem? (i := 76) rfl)) (hw _ (List.mem_of_getElem? (i := 77) rfl)) (hw _ (List.mem_of_getElem? (i := 3) rfl)) (hw _ (List.mem_of_getElem? (i := 78) rfl)) (by decide) (argsL := [(.ref b1), (.int ((Int32.ofNat pN) + (1 : Int32)))]) (rest := []) (rm10 l Z a0 hw b1 ((Int32.ofNat pN) + (1 : Int32)) (pN + 1) k1 (6 : Int32) [c0, c1, c2, c3, c4, c5] h13 n0 V_b1_13 rfl own_inc (by omega)) (W := 0) (by decide) (by decide) (g := (mkF m 106 #[.val (.long q0), .second, .val (.long q1), .second, .val (.int p2), .val (.ref b1), .val (.int (Int32.ofNat pN)), .val (.int (0 : Int32)), .val (.int ((Int32.ofNat pN) + (1 : Int32))), .unset, .unset, .unset, .unset, .unset, .unset, .unset] [(.int ((Int32.ofNat pN) + (1 : Int32))), (.ref b1)])) rfl (by rw [hml]; rfl) pd_3 rfl rfl (by show 2 * 0 + _ ≤ _; exact Nat.le_of_eq rfl) (hb hby at_106) e13 (by decide) (by decide) N13
        refine own_go (T' := T16) (g' := (mkF m 109 #[.val (.long q0), .second, .val (.long q1), .second, .val (.int p2), .val (.ref b1), .val (.int (Int32.ofNat pN)), .val (.int (0 : Int32)), .val (.int ((Int32.ofNat pN) + (1 : Int32))), .unset, .unset, .unset, .unset, .unset, .unset, .unset] [(.int (Int32.ofNat (own_adv [c0, c1, c2, c3, c4, c5] (pN + 1))))])) st16 ?_
        refine own_go (T' := T16) (g' := (mkF m 115 #[.val (.long q0), .second, .val (.long q1), .second, .val (.int p2), .val (.ref b1), .val (.int (Int32.ofNat pN)), .val (.int (0 : Int32)), .val (.int (Int32.ofNat (own_adv [c0, c1, c2, c3, c4, c5] (pN + 1)))), .unset, .unset, .unset, .unset, .unset, .unset, .unset] [(.int (Int32.ofNat (own_adv [c0, c1, c2, c3, c4, c5] (pN + 1)))), (.ref b1)])) (fun t k => ?_) ?_
        · show Steps p.tables e below (T16.setTop (mkF m 109 #[.val (.long q0), .second, .val (.long q1), .second, .val (.int p2), .val (.ref b1), .val (.int (Int32.ofNat pN)), .val (.int (0 : Int32)), .val (.int ((Int32.ofNat pN) + (1 : Int32))), .unset, .unset, .unset, .unset, .unset, .unset, .unset] [(.int (Int32.ofNat (own_adv [c0, c1, c2, c3, c4, c5] (pN + 1))))])) t
          refine XS.istore X16.here hx rfl (hb hby at_109) rfl (l' := #[.val (.long q0), .second, .val (.long q1), .second, .val (.int p2), .val (.ref b1), .val (.int (Int32.ofNat pN)), .val (.int (0 : Int32)), .val (.int (Int32.ofNat (own_adv [c0, c1, c2, c3, c4, c5] (pN + 1)))), .unset, .unset, .unset, .unset, .unset, .unset, .unset]) rfl ?_
          show Steps p.tables e below (T16.setTop (mkF m 111 #[.val (.long q0), .second, .val (.long q1), .second, .val (.int p2), .val (.ref b1), .val (.int (Int32.ofNat pN)), .val (.int (0 : Int32)), .val (.int (Int32.ofNat (own_adv [c0, c1, c2, c3, c4, c5] (pN + 1)))), .unset, .unset, .unset, .unset, .unset, .unset, .unset] [])) _
          refine XS.aload X16.here hx rfl (hb hby at_111) rfl rfl ?_
          show Steps p.tables e below (T16.setTop (mkF m 113 #[.val (.long q0), .second, .val (.long q1), .second, .val (.int p2), .val (.ref b1), .val (.int (Int32.ofNat pN)), .val (.int (0 : Int32)), .val (.int (Int32.ofNat (own_adv [c0, c1, c2, c3, c4, c5] (pN + 1)))), .unset, .unset, .unset, .unset, .unset, .unset, .unset] [(.ref b1)])) _
          refine XS.iload X16.here hx rfl (hb hby at_113) rfl ?_
          show Steps p.tables e below (T16.setTop (mkF m 115 #[.val (.long q0), .second, .val (.long q1), .second, .val (.int p2), .val (.ref b1), .val (.int (Int32.ofNat pN)), .val (.int (0 : Int32)), .val (.int (Int32.ofNat (own_adv [c0, c1, c2, c3, c4, c5] (pN + 1)))), .unset, .unset, .unset, .unset, .unset, .unset, .unset] [(.int (Int32.ofNat (own_adv [c0, c1, c2, c3, c4, c5] (pN + 1)))), (.ref b1)])) _
          exact k
        obtain ⟨_, T17, L17, X17, N17, ⟨rfl, e17⟩, st17⟩ := own_callS X16 hx hZ hown (hw _ (List.mem_of_getElem? (i := 76) rfl)) (hw _ (List.mem_of_getElem? (i := 77) rfl)) (hw _ (List.mem_of_getElem? (i := 3) rfl)) (hw _ (List.mem_of_getElem? (i := 78) rfl)) (by decide) (argsL := [(.ref b1), (.int (Int32.ofNat (own_adv [c0, c1, c2, c3, c4, c5] (pN + 1))))]) (rest := []) (rm10 l Z a0 hw b1 (Int32.ofNat (own_adv [c0, c1, c2, c3, c4, c5] (pN + 1))) (own_adv [c0, c1, c2, c3, c4, c5] (pN + 1)) k1 (6 : Int32) [c0, c1, c2, c3, c4, c5] h13 n0 V_b1_13 rfl rfl (own_adv_le (by omega))) (W := 0) (by decide) (by decide) (g := (mkF m 115 #[.val (.long q0), .second, .val (.long q1), .second, .val (.int p2), .val (.ref b1), .val (.int (Int32.ofNat pN)), .val (.int (0 : Int32)), .val (.int (Int32.ofNat (own_adv [c0, c1, c2, c3, c4, c5] (pN + 1)))), .unset, .unset, .unset, .unset, .unset, .unset, .unset] [(.int (Int32.ofNat (own_adv [c0, c1, c2, c3, c4, c5] (pN + 1)))), (.ref b1)])) rfl (by rw [hml]; rfl) pd_3 rfl rfl (by show 2 * 0 + _ ≤ _; exact Nat.le_of_eq rfl) (hb hby at_115) e16 (by decide) (by decide) N16
        refine own_go (T' := T17) (g' := (mkF m 118 #[.val (.long q0), .second, .val (.long q1), .second, .val (.int p2), .val (.ref b1), .val (.int (Int32.ofNat pN)), .val (.int (0 : Int32)), .val (.int (Int32.ofNat (own_adv [c0, c1, c2, c3, c4, c5] (pN + 1)))), .unset, .unset, .unset, .unset, .unset, .unset, .unset] [(.int (Int32.ofNat (own_adv [c0, c1, c2, c3, c4, c5] (own_adv [c0, c1, c2, c3, c4, c5] (pN + 1)))))])) st17 ?_
        refine own_go (T' := T17) (g' := (mkF m 124 #[.val (.long q0), .second, .val (.long q1), .second, .val (.int p2), .val (.ref b1), .val (.int (Int32.ofNat pN)), .val (.int (0 : Int32)), .val (.int (Int32.ofNat (own_adv [c0, c1, c2, c3, c4, c5] (own_adv [c0, c1, c2, c3, c4, c5] (pN + 1))))), .unset, .unset, .unset, .unset, .unset, .unset, .unset] [(.int (Int32.ofNat (own_adv [c0, c1, c2, c3, c4, c5] (own_adv [c0, c1, c2, c3, c4, c5] (pN + 1))))), (.ref b1)])) (fun t k => ?_) ?_
        · show Steps p.tables e below (T17.setTop (mkF m 118 #[.val (.long q0), .second, .val (.long q1), .second, .val (.int p2), .val (.ref b1), .val (.int (Int32.ofNat pN)), .val (.int (0 : Int32)), .val (.int (Int32.ofNat (own_adv [c0, c1, c2, c3, c4, c5] (pN + 1)))), .unset, .unset, .unset, .unset, .unset, .unset, .unset] [(.int (Int32.ofNat (own_adv [c0, c1, c2, c3, c4, c5] (own_adv [c0, c1, c2, c3, c4, c5] (pN + 1)))))])) t
          refine XS.istore X17.here hx rfl (hb hby at_118) rfl (l' := #[.val (.long q0), .second, .val (.long q1), .second, .val (.int p2), .val (.ref b1), .val (.int (Int32.ofNat pN)), .val (.int (0 : Int32)), .val (.int (Int32.ofNat (own_adv [c0, c1, c2, c3, c4, c5] (own_adv [c0, c1, c2, c3, c4, c5] (pN + 1))))), .unset, .unset, .unset, .unset, .unset, .unset, .unset]) rfl ?_
          show Steps p.tables e below (T17.setTop (mkF m 120 #[.val (.long q0), .second, .val (.long q1), .second, .val (.int p2), .val (.ref b1), .val (.int (Int32.ofNat pN)), .val (.int (0 : Int32)), .val (.int (Int32.ofNat (own_adv [c0, c1, c2, c3, c4, c5] (own_adv [c0, c1, c2, c3, c4, c5] (pN + 1))))), .unset, .unset, .unset, .unset, .unset, .unset, .unset] [])) _
          refine XS.aload X17.here hx rfl (hb hby at_120) rfl rfl ?_
          show Steps p.tables e below (T17.setTop (mkF m 122 #[.val (.long q0), .second, .val (.long q1), .second, .val (.int p2), .val (.ref b1), .val (.int (Int32.ofNat pN)), .val (.int (0 : Int32)), .val (.int (Int32.ofNat (own_adv [c0, c1, c2, c3, c4, c5] (own_adv [c0, c1, c2, c3, c4, c5] (pN + 1))))), .unset, .unset, .unset, .unset, .unset, .unset, .unset] [(.ref b1)])) _
          refine XS.iload X17.here hx rfl (hb hby at_122) rfl ?_
          show Steps p.tables e below (T17.setTop (mkF m 124 #[.val (.long q0), .second, .val (.long q1), .second, .val (.int p2), .val (.ref b1), .val (.int (Int32.ofNat pN)), .val (.int (0 : Int32)), .val (.int (Int32.ofNat (own_adv [c0, c1, c2, c3, c4, c5] (own_adv [c0, c1, c2, c3, c4, c5] (pN + 1))))), .unset, .unset, .unset, .unset, .unset, .unset, .unset] [(.int (Int32.ofNat (own_adv [c0, c1, c2, c3, c4, c5] (own_adv [c0, c1, c2, c3, c4, c5] (pN + 1))))), (.ref b1)])) _
          exact k
        obtain ⟨_, T18, L18, X18, N18, ⟨rfl, e18⟩, st18⟩ := own_callS X17 hx hZ hown (hw _ (List.mem_of_getElem? (i := 76) rfl)) (hw _ (List.mem_of_getElem? (i := 77) rfl)) (hw _ (List.mem_of_getElem? (i := 3) rfl)) (hw _ (List.mem_of_getElem? (i := 78) rfl)) (by decide) (argsL := [(.ref b1), (.int (Int32.ofNat (own_adv [c0, c1, c2, c3, c4, c5] (own_adv [c0, c1, c2, c3, c4, c5] (pN + 1)))))]) (rest := []) (rm10 l Z a0 hw b1 (Int32.ofNat (own_adv [c0, c1, c2, c3, c4, c5] (own_adv [c0, c1, c2, c3, c4, c5] (pN + 1)))) (own_adv [c0, c1, c2, c3, c4, c5] (own_adv [c0, c1, c2, c3, c4, c5] (pN + 1))) k1 (6 : Int32) [c0, c1, c2, c3, c4, c5] h13 n0 V_b1_13 rfl rfl (own_adv_le (own_adv_le (by omega)))) (W := 0) (by decide) (by decide) (g := (mkF m 124 #[.val (.long q0), .second, .val (.long q1), .second, .val (.int p2), .val (.ref b1), .val (.int (Int32.ofNat pN)), .val (.int (0 : Int32)), .val (.int (Int32.ofNat (own_adv [c0, c1, c2, c3, c4, c5] (own_adv [c0, c1, c2, c3, c4, c5] (pN + 1))))), .unset, .unset, .unset, .unset, .unset, .unset, .unset] [(.int (Int32.ofNat (own_adv [c0, c1, c2, c3, c4, c5] (own_adv [c0, c1, c2, c3, c4, c5] (pN + 1))))), (.ref b1)])) rfl (by rw [hml]; rfl) pd_3 rfl rfl (by show 2 * 0 + _ ≤ _; exact Nat.le_of_eq rfl) (hb hby at_124) e17 (by decide) (by decide) N17
        refine own_go (T' := T18) (g' := (mkF m 127 #[.val (.long q0), .second, .val (.long q1), .second, .val (.int p2), .val (.ref b1), .val (.int (Int32.ofNat pN)), .val (.int (0 : Int32)), .val (.int (Int32.ofNat (own_adv [c0, c1, c2, c3, c4, c5] (own_adv [c0, c1, c2, c3, c4, c5] (pN + 1))))), .unset, .unset, .unset, .unset, .unset, .unset, .unset] [(.int (Int32.ofNat (own_adv [c0, c1, c2, c3, c4, c5] (own_adv [c0, c1, c2, c3, c4, c5] (own_adv [c0, c1, c2, c3, c4, c5] (pN + 1))))))])) st18 ?_
        refine own_go (T' := T18) (g' := (mkF m 133 #[.val (.long q0), .second, .val (.long q1), .second, .val (.int p2), .val (.ref b1), .val (.int (Int32.ofNat pN)), .val (.int (0 : Int32)), .val (.int (Int32.ofNat (own_adv [c0, c1, c2, c3, c4, c5] (own_adv [c0, c1, c2, c3, c4, c5] (own_adv [c0, c1, c2, c3, c4, c5] (pN + 1)))))), .unset, .unset, .unset, .unset, .unset, .unset, .unset] [(.int (Int32.ofNat (own_adv [c0, c1, c2, c3, c4, c5] (own_adv [c0, c1, c2, c3, c4, c5] (own_adv [c0, c1, c2, c3, c4, c5] (pN + 1)))))), (.ref b1)])) (fun t k => ?_) ?_
        · show Steps p.tables e below (T18.setTop (mkF m 127 #[.val (.long q0), .second, .val (.long q1), .second, .val (.int p2), .val (.ref b1), .val (.int (Int32.ofNat pN)), .val (.int (0 : Int32)), .val (.int (Int32.ofNat (own_adv [c0, c1, c2, c3, c4, c5] (own_adv [c0, c1, c2, c3, c4, c5] (pN + 1))))), .unset, .unset, .unset, .unset, .unset, .unset, .unset] [(.int (Int32.ofNat (own_adv [c0, c1, c2, c3, c4, c5] (own_adv [c0, c1, c2, c3, c4, c5] (own_adv [c0, c1, c2, c3, c4, c5] (pN + 1))))))])) t
          refine XS.istore X18.here hx rfl (hb hby at_127) rfl (l' := #[.val (.long q0), .second, .val (.long q1), .second, .val (.int p2), .val (.ref b1), .val (.int (Int32.ofNat pN)), .val (.int (0 : Int32)), .val (.int (Int32.ofNat (own_adv [c0, c1, c2, c3, c4, c5] (own_adv [c0, c1, c2, c3, c4, c5] (own_adv [c0, c1, c2, c3, c4, c5] (pN + 1)))))), .unset, .unset, .unset, .unset, .unset, .unset, .unset]) rfl ?_
          show Steps p.tables e below (T18.setTop (mkF m 129 #[.val (.long q0), .second, .val (.long q1), .second, .val (.int p2), .val (.ref b1), .val (.int (Int32.ofNat pN)), .val (.int (0 : Int32)), .val (.int (Int32.ofNat (own_adv [c0, c1, c2, c3, c4, c5] (own_adv [c0, c1, c2, c3, c4, c5] (own_adv [c0, c1, c2, c3, c4, c5] (pN + 1)))))), .unset, .unset, .unset, .unset, .unset, .unset, .unset] [])) _
          refine XS.aload X18.here hx rfl (hb hby at_129) rfl rfl ?_
          show Steps p.tables e below (T18.setTop (mkF m 131 #[.val (.long q0), .second, .val (.long q1), .second, .val (.int p2), .val (.ref b1), .val (.int (Int32.ofNat pN)), .val (.int (0 : Int32)), .val (.int (Int32.ofNat (own_adv [c0, c1, c2, c3, c4, c5] (own_adv [c0, c1, c2, c3, c4, c5] (own_adv [c0, c1, c2, c3, c4, c5] (pN + 1)))))), .unset, .unset, .unset, .unset, .unset, .unset, .unset] [(.ref b1)])) _
          refine XS.iload X18.here hx rfl (hb hby at_131) rfl ?_
          show Steps p.tables e below (T18.setTop (mkF m 133 #[.val (.long q0), .second, .val (.long q1), .second, .val (.int p2), .val (.ref b1), .val (.int (Int32.ofNat pN)), .val (.int (0 : Int32)), .val (.int (Int32.ofNat (own_adv [c0, c1, c2, c3, c4, c5] (own_adv [c0, c1, c2, c3, c4, c5] (own_adv [c0, c1, c2, c3, c4, c5] (pN + 1)))))), .unset, .unset, .unset, .unset, .unset, .unset, .unset] [(.int (Int32.ofNat (own_adv [c0, c1, c2, c3, c4, c5] (own_adv [c0, c1, c2, c3, c4, c5] (own_adv [c0, c1, c2, c3, c4, c5] (pN + 1)))))), (.ref b1)])) _
          exact k
        obtain ⟨_, T19, L19, X19, N19, ⟨rfl, e19⟩, st19⟩ := own_callS X18 hx hZ hown (hw _ (List.mem_of_getElem? (i := 76) rfl)) (hw _ (List.mem_of_getElem? (i := 77) rfl)) (hw _ (List.mem_of_getElem? (i := 3) rfl)) (hw _ (List.mem_of_getElem? (i := 78) rfl)) (by decide) (argsL := [(.ref b1), (.int (Int32.ofNat (own_adv [c0, c1, c2, c3, c4, c5] (own_adv [c0, c1, c2, c3, c4, c5] (own_adv [c0, c1, c2, c3, c4, c5] (pN + 1))))))]) (rest := []) (rm10 l Z a0 hw b1 (Int32.ofNat (own_adv [c0, c1, c2, c3, c4, c5] (own_adv [c0, c1, c2, c3, c4, c5] (own_adv [c0, c1, c2, c3, c4, c5] (pN + 1))))) (own_adv [c0, c1, c2, c3, c4, c5] (own_adv [c0, c1, c2, c3, c4, c5] (own_adv [c0, c1, c2, c3, c4, c5] (pN + 1)))) k1 (6 : Int32) [c0, c1, c2, c3, c4, c5] h13 n0 V_b1_13 rfl rfl (own_adv_le (own_adv_le (own_adv_le (by omega))))) (W := 0) (by decide) (by decide) (g := (mkF m 133 #[.val (.long q0), .second, .val (.long q1), .second, .val (.int p2), .val (.ref b1), .val (.int (Int32.ofNat pN)), .val (.int (0 : Int32)), .val (.int (Int32.ofNat (own_adv [c0, c1, c2, c3, c4, c5] (own_adv [c0, c1, c2, c3, c4, c5] (own_adv [c0, c1, c2, c3, c4, c5] (pN + 1)))))), .unset, .unset, .unset, .unset, .unset, .unset, .unset] [(.int (Int32.ofNat (own_adv [c0, c1, c2, c3, c4, c5] (own_adv [c0, c1, c2, c3, c4, c5] (own_adv [c0, c1, c2, c3, c4, c5] (pN + 1)))))), (.ref b1)])) rfl (by rw [hml]; rfl) pd_3 rfl rfl (by show 2 * 0 + _ ≤ _; exact Nat.le_of_eq rfl) (hb hby at_133) e18 (by decide) (by decide) N18
        refine own_go (T' := T19) (g' := (mkF m 136 #[.val (.long q0), .second, .val (.long q1), .second, .val (.int p2), .val (.ref b1), .val (.int (Int32.ofNat pN)), .val (.int (0 : Int32)), .val (.int (Int32.ofNat (own_adv [c0, c1, c2, c3, c4, c5] (own_adv [c0, c1, c2, c3, c4, c5] (own_adv [c0, c1, c2, c3, c4, c5] (pN + 1)))))), .unset, .unset, .unset, .unset, .unset, .unset, .unset] [(.int (Int32.ofNat (own_adv [c0, c1, c2, c3, c4, c5] (own_adv [c0, c1, c2, c3, c4, c5] (own_adv [c0, c1, c2, c3, c4, c5] (own_adv [c0, c1, c2, c3, c4, c5] (pN + 1)))))))])) st19 ?_
        refine own_go (T' := T19) (g' := (mkF m 142 #[.val (.long q0), .second, .val (.long q1), .second, .val (.int p2), .val (.ref b1), .val (.int (Int32.ofNat pN)), .val (.int (0 : Int32)), .val (.int (Int32.ofNat (own_adv [c0, c1, c2, c3, c4, c5] (own_adv [c0, c1, c2, c3, c4, c5] (own_adv [c0, c1, c2, c3, c4, c5] (own_adv [c0, c1, c2, c3, c4, c5] (pN + 1))))))), .unset, .unset, .unset, .unset, .unset, .unset, .unset] [(.int (Int32.ofNat (own_adv [c0, c1, c2, c3, c4, c5] (own_adv [c0, c1, c2, c3, c4, c5] (own_adv [c0, c1, c2, c3, c4, c5] (own_adv [c0, c1, c2, c3, c4, c5] (pN + 1))))))), (.ref b1)])) (fun t k => ?_) ?_
        · show Steps p.tables e below (T19.setTop (mkF m 136 #[.val (.long q0), .second, .val (.long q1), .second, .val (.int p2), .val (.ref b1), .val (.int (Int32.ofNat pN)), .val (.int (0 : Int32)), .val (.int (Int32.ofNat (own_adv [c0, c1, c2, c3, c4, c5] (own_adv [c0, c1, c2, c3, c4, c5] (own_adv [c0, c1, c2, c3, c4, c5] (pN + 1)))))), .unset, .unset, .unset, .unset, .unset, .unset, .unset] [(.int (Int32.ofNat (own_adv [c0, c1, c2, c3, c4, c5] (own_adv [c0, c1, c2, c3, c4, c5] (own_adv [c0, c1, c2, c3, c4, c5] (own_adv [c0, c1, c2, c3, c4, c5] (pN + 1)))))))])) t
          refine XS.istore X19.here hx rfl (hb hby at_136) rfl (l' := #[.val (.long q0), .second, .val (.long q1), .second, .val (.int p2), .val (.ref b1), .val (.int (Int32.ofNat pN)), .val (.int (0 : Int32)), .val (.int (Int32.ofNat (own_adv [c0, c1, c2, c3, c4, c5] (own_adv [c0, c1, c2, c3, c4, c5] (own_adv [c0, c1, c2, c3, c4, c5] (own_adv [c0, c1, c2, c3, c4, c5] (pN + 1))))))), .unset, .unset, .unset, .unset, .unset, .unset, .unset]) rfl ?_
          show Steps p.tables e below (T19.setTop (mkF m 138 #[.val (.long q0), .second, .val (.long q1), .second, .val (.int p2), .val (.ref b1), .val (.int (Int32.ofNat pN)), .val (.int (0 : Int32)), .val (.int (Int32.ofNat (own_adv [c0, c1, c2, c3, c4, c5] (own_adv [c0, c1, c2, c3, c4, c5] (own_adv [c0, c1, c2, c3, c4, c5] (own_adv [c0, c1, c2, c3, c4, c5] (pN + 1))))))), .unset, .unset, .unset, .unset, .unset, .unset, .unset] [])) _
          refine XS.aload X19.here hx rfl (hb hby at_138) rfl rfl ?_
          show Steps p.tables e below (T19.setTop (mkF m 140 #[.val (.long q0), .second, .val (.long q1), .second, .val (.int p2), .val (.ref b1), .val (.int (Int32.ofNat pN)), .val (.int (0 : Int32)), .val (.int (Int32.ofNat (own_adv [c0, c1, c2, c3, c4, c5] (own_adv [c0, c1, c2, c3, c4, c5] (own_adv [c0, c1, c2, c3, c4, c5] (own_adv [c0, c1, c2, c3, c4, c5] (pN + 1))))))), .unset, .unset, .unset, .unset, .unset, .unset, .unset] [(.ref b1)])) _
          refine XS.iload X19.here hx rfl (hb hby at_140) rfl ?_
          show Steps p.tables e below (T19.setTop (mkF m 142 #[.val (.long q0), .second, .val (.long q1), .second, .val (.int p2), .val (.ref b1), .val (.int (Int32.ofNat pN)), .val (.int (0 : Int32)), .val (.int (Int32.ofNat (own_adv [c0, c1, c2, c3, c4, c5] (own_adv [c0, c1, c2, c3, c4, c5] (own_adv [c0, c1, c2, c3, c4, c5] (own_adv [c0, c1, c2, c3, c4, c5] (pN + 1))))))), .unset, .unset, .unset, .unset, .unset, .unset, .unset] [(.int (Int32.ofNat (own_adv [c0, c1, c2, c3, c4, c5] (own_adv [c0, c1, c2, c3, c4, c5] (own_adv [c0, c1, c2, c3, c4, c5] (own_adv [c0, c1, c2, c3, c4, c5] (pN + 1))))))), (.ref b1)])) _
          exact k
        obtain ⟨_, T20, L20, X20, N20, ⟨rfl, e20⟩, st20⟩ := own_callS X19 hx hZ hown (hw _ (List.mem_of_getElem? (i := 76) rfl)) (hw _ (List.mem_of_getElem? (i := 77) rfl)) (hw _ (List.mem_of_getElem? (i := 3) rfl)) (hw _ (List.mem_of_getElem? (i := 78) rfl)) (by decide) (argsL := [(.ref b1), (.int (Int32.ofNat (own_adv [c0, c1, c2, c3, c4, c5] (own_adv [c0, c1, c2, c3, c4, c5] (own_adv [c0, c1, c2, c3, c4, c5] (own_adv [c0, c1, c2, c3, c4, c5] (pN + 1)))))))]) (rest := []) (rm10 l Z a0 hw b1 (Int32.ofNat (own_adv [c0, c1, c2, c3, c4, c5] (own_adv [c0, c1, c2, c3, c4, c5] (own_adv [c0, c1, c2, c3, c4, c5] (own_adv [c0, c1, c2, c3, c4, c5] (pN + 1)))))) (own_adv [c0, c1, c2, c3, c4, c5] (own_adv [c0, c1, c2, c3, c4, c5] (own_adv [c0, c1, c2, c3, c4, c5] (own_adv [c0, c1, c2, c3, c4, c5] (pN + 1))))) k1 (6 : Int32) [c0, c1, c2, c3, c4, c5] h13 n0 V_b1_13 rfl rfl (own_adv_le (own_adv_le (own_adv_le (own_adv_le (by omega)))))) (W := 0) (by decide) (by decide) (g := (mkF m 142 #[.val (.long q0), .second, .val (.long q1), .second, .val (.int p2), .val (.ref b1), .val (.int (Int32.ofNat pN)), .val (.int (0 : Int32)), .val (.int (Int32.ofNat (own_adv [c0, c1, c2, c3, c4, c5] (own_adv [c0, c1, c2, c3, c4, c5] (own_adv [c0, c1, c2, c3, c4, c5] (own_adv [c0, c1, c2, c3, c4, c5] (pN + 1))))))), .unset, .unset, .unset, .unset, .unset, .unset, .unset] [(.int (Int32.ofNat (own_adv [c0, c1, c2, c3, c4, c5] (own_adv [c0, c1, c2, c3, c4, c5] (own_adv [c0, c1, c2, c3, c4, c5] (own_adv [c0, c1, c2, c3, c4, c5] (pN + 1))))))), (.ref b1)])) rfl (by rw [hml]; rfl) pd_3 rfl rfl (by show 2 * 0 + _ ≤ _; exact Nat.le_of_eq rfl) (hb hby at_142) e19 (by decide) (by decide) N19
        refine own_go (T' := T20) (g' := (mkF m 145 #[.val (.long q0), .second, .val (.long q1), .second, .val (.int p2), .val (.ref b1), .val (.int (Int32.ofNat pN)), .val (.int (0 : Int32)), .val (.int (Int32.ofNat (own_adv [c0, c1, c2, c3, c4, c5] (own_adv [c0, c1, c2, c3, c4, c5] (own_adv [c0, c1, c2, c3, c4, c5] (own_adv [c0, c1, c2, c3, c4, c5] (pN + 1))))))), .unset, .unset, .unset, .unset, .unset, .unset, .unset] [(.int (Int32.ofNat (own_adv [c0, c1, c2, c3, c4, c5] (own_adv [c0, c1, c2, c3, c4, c5] (own_adv [c0, c1, c2, c3, c4, c5] (own_adv [c0, c1, c2, c3, c4, c5] (own_adv [c0, c1, c2, c3, c4, c5] (pN + 1))))))))])) st20 ?_
        refine own_go (T' := T20) (g' := (mkF m 151 #[.val (.long q0), .second, .val (.long q1), .second, .val (.int p2), .val (.ref b1), .val (.int (Int32.ofNat pN)), .val (.int (0 : Int32)), .val (.int (Int32.ofNat (own_adv [c0, c1, c2, c3, c4, c5] (own_adv [c0, c1, c2, c3, c4, c5] (own_adv [c0, c1, c2, c3, c4, c5] (own_adv [c0, c1, c2, c3, c4, c5] (own_adv [c0, c1, c2, c3, c4, c5] (pN + 1)))))))), .unset, .unset, .unset, .unset, .unset, .unset, .unset] [(.int (6 : Int32)), (.int (Int32.ofNat (own_adv [c0, c1, c2, c3, c4, c5] (own_adv [c0, c1, c2, c3, c4, c5] (own_adv [c0, c1, c2, c3, c4, c5] (own_adv [c0, c1, c2, c3, c4, c5] (own_adv [c0, c1, c2, c3, c4, c5] (pN + 1))))))))])) (fun t k => ?_) ?_
        · show Steps p.tables e below (T20.setTop (mkF m 145 #[.val (.long q0), .second, .val (.long q1), .second, .val (.int p2), .val (.ref b1), .val (.int (Int32.ofNat pN)), .val (.int (0 : Int32)), .val (.int (Int32.ofNat (own_adv [c0, c1, c2, c3, c4, c5] (own_adv [c0, c1, c2, c3, c4, c5] (own_adv [c0, c1, c2, c3, c4, c5] (own_adv [c0, c1, c2, c3, c4, c5] (pN + 1))))))), .unset, .unset, .unset, .unset, .unset, .unset, .unset] [(.int (Int32.ofNat (own_adv [c0, c1, c2, c3, c4, c5] (own_adv [c0, c1, c2, c3, c4, c5] (own_adv [c0, c1, c2, c3, c4, c5] (own_adv [c0, c1, c2, c3, c4, c5] (own_adv [c0, c1, c2, c3, c4, c5] (pN + 1))))))))])) t
          refine XS.istore X20.here hx rfl (hb hby at_145) rfl (l' := #[.val (.long q0), .second, .val (.long q1), .second, .val (.int p2), .val (.ref b1), .val (.int (Int32.ofNat pN)), .val (.int (0 : Int32)), .val (.int (Int32.ofNat (own_adv [c0, c1, c2, c3, c4, c5] (own_adv [c0, c1, c2, c3, c4, c5] (own_adv [c0, c1, c2, c3, c4, c5] (own_adv [c0, c1, c2, c3, c4, c5] (own_adv [c0, c1, c2, c3, c4, c5] (pN + 1)))))))), .unset, .unset, .unset, .unset, .unset, .unset, .unset]) rfl ?_
          show Steps p.tables e below (T20.setTop (mkF m 147 #[.val (.long q0), .second, .val (.long q1), .second, .val (.int p2), .val (.ref b1), .val (.int (Int32.ofNat pN)), .val (.int (0 : Int32)), .val (.int (Int32.ofNat (own_adv [c0, c1, c2, c3, c4, c5] (own_adv [c0, c1, c2, c3, c4, c5] (own_adv [c0, c1, c2, c3, c4, c5] (own_adv [c0, c1, c2, c3, c4, c5] (own_adv [c0, c1, c2, c3, c4, c5] (pN + 1)))))))), .unset, .unset, .unset, .unset, .unset, .unset, .unset] [])) _
          refine XS.iload X20.here hx rfl (hb hby at_147) rfl ?_
          show Steps p.tables e below (T20.setTop (mkF m 149 #[.val (.long q0), .second, .val (.long q1), .second, .val (.int p2), .val (.ref b1), .val (.int (Int32.ofNat pN)), .val (.int (0 : Int32)), .val (.int (Int32.ofNat (own_adv [c0, c1, c2, c3, c4, c5] (own_adv [c0, c1, c2, c3, c4, c5] (own_adv [c0, c1, c2, c3, c4, c5] (own_adv [c0, c1, c2, c3, c4, c5] (own_adv [c0, c1, c2, c3, c4, c5] (pN + 1)))))))), .unset, .unset, .unset, .unset, .unset, .unset, .unset] [(.int (Int32.ofNat (own_adv [c0, c1, c2, c3, c4, c5] (own_adv [c0, c1, c2, c3, c4, c5] (own_adv [c0, c1, c2, c3, c4, c5] (own_adv [c0, c1, c2, c3, c4, c5] (own_adv [c0, c1, c2, c3, c4, c5] (pN + 1))))))))])) _
          refine XS.bipush X20.here hx rfl (hb hby at_149) ?_
          show Steps p.tables e below (T20.setTop (mkF m 151 #[.val (.long q0), .second, .val (.long q1), .second, .val (.int p2), .val (.ref b1), .val (.int (Int32.ofNat pN)), .val (.int (0 : Int32)), .val (.int (Int32.ofNat (own_adv [c0, c1, c2, c3, c4, c5] (own_adv [c0, c1, c2, c3, c4, c5] (own_adv [c0, c1, c2, c3, c4, c5] (own_adv [c0, c1, c2, c3, c4, c5] (own_adv [c0, c1, c2, c3, c4, c5] (pN + 1)))))))), .unset, .unset, .unset, .unset, .unset, .unset, .unset] [(.int (6 : Int32)), (.int (Int32.ofNat (own_adv [c0, c1, c2, c3, c4, c5] (own_adv [c0, c1, c2, c3, c4, c5] (own_adv [c0, c1, c2, c3, c4, c5] (own_adv [c0, c1, c2, c3, c4, c5] (own_adv [c0, c1, c2, c3, c4, c5] (pN + 1))))))))])) _
          exact k
        by_cases hm151_21 : (Int32.ofNat (own_adv [c0, c1, c2, c3, c4, c5] (own_adv [c0, c1, c2, c3, c4, c5] (own_adv [c0, c1, c2, c3, c4, c5] (own_adv [c0, c1, c2, c3, c4, c5] (own_adv [c0, c1, c2, c3, c4, c5] (pN + 1))))))) < (6 : Int32)
        · refine own_go (T' := T20) (g' := (mkF m 154 #[.val (.long q0), .second, .val (.long q1), .second, .val (.int p2), .val (.ref b1), .val (.int (Int32.ofNat pN)), .val (.int (0 : Int32)), .val (.int (Int32.ofNat (own_adv [c0, c1, c2, c3, c4, c5] (own_adv [c0, c1, c2, c3, c4, c5] (own_adv [c0, c1, c2, c3, c4, c5] (own_adv [c0, c1, c2, c3, c4, c5] (own_adv [c0, c1, c2, c3, c4, c5] (pN + 1)))))))), .unset, .unset, .unset, .unset, .unset, .unset, .unset] [])) (fun t k => ?_) ?_
          · refine XS.icmpNo X20.here hx rfl (hb hby at_151) rfl (tlt hm151_21).2.1 ?_
            exact k
          refine own_go (T' := T20) (g' := (mkF m 161 #[.val (.long q0), .second, .val (.long q1), .second, .val (.int p2), .val (.ref b1), .val (.int (Int32.ofNat pN)), .val (.int (0 : Int32)), .val (.int (Int32.ofNat (own_adv [c0, c1, c2, c3, c4, c5] (own_adv [c0, c1, c2, c3, c4, c5] (own_adv [c0, c1, c2, c3, c4, c5] (own_adv [c0, c1, c2, c3, c4, c5] (own_adv [c0, c1, c2, c3, c4, c5] (pN + 1)))))))), .unset, .unset, .unset, .unset, .unset, .unset, .unset] [(.int (60 : Int32)), (.int ([c0, c1, c2, c3, c4, c5].getD (own_adv [c0, c1, c2, c3, c4, c5] (own_adv [c0, c1, c2, c3, c4, c5] (own_adv [c0, c1, c2, c3, c4, c5] (own_adv [c0, c1, c2, c3, c4, c5] (own_adv [c0, c1, c2, c3, c4, c5] (pN + 1)))))) 0))])) (fun t k => ?_) ?_
          · show Steps p.tables e below (T20.setTop (mkF m 154 #[.val (.long q0), .second, .val (.long q1), .second, .val (.int p2), .val (.ref b1), .val (.int (Int32.ofNat pN)), .val (.int (0 : Int32)), .val (.int (Int32.ofNat (own_adv [c0, c1, c2, c3, c4, c5] (own_adv [c0, c1, c2, c3, c4, c5] (own_adv [c0, c1, c2, c3, c4, c5] (own_adv [c0, c1, c2, c3, c4, c5] (own_adv [c0, c1, c2, c3, c4, c5] (pN + 1)))))))), .unset, .unset, .unset, .unset, .unset, .unset, .unset] [])) t
            refine XS.aload X20.here hx rfl (hb hby at_154) rfl rfl ?_
            show Steps p.tables e below (T20.setTop (mkF m 156 #[.val (.long q0), .second, .val (.long q1), .second, .val (.int p2), .val (.ref b1), .val (.int (Int32.ofNat pN)), .val (.int (0 : Int32)), .val (.int (Int32.ofNat (own_adv [c0, c1, c2, c3, c4, c5] (own_adv [c0, c1, c2, c3, c4, c5] (own_adv [c0, c1, c2, c3, c4, c5] (own_adv [c0, c1, c2, c3, c4, c5] (own_adv [c0, c1, c2, c3, c4, c5] (pN + 1)))))))), .unset, .unset, .unset, .unset, .unset, .unset, .unset] [(.ref b1)])) _
            refine XS.iload X20.here hx rfl (hb hby at_156) rfl ?_
            show Steps p.tables e below (T20.setTop (mkF m 158 #[.val (.long q0), .second, .val (.long q1), .second, .val (.int p2), .val (.ref b1), .val (.int (Int32.ofNat pN)), .val (.int (0 : Int32)), .val (.int (Int32.ofNat (own_adv [c0, c1, c2, c3, c4, c5] (own_adv [c0, c1, c2, c3, c4, c5] (own_adv [c0, c1, c2, c3, c4, c5] (own_adv [c0, c1, c2, c3, c4, c5] (own_adv [c0, c1, c2, c3, c4, c5] (pN + 1)))))))), .unset, .unset, .unset, .unset, .unset, .unset, .unset] [(.int (Int32.ofNat (own_adv [c0, c1, c2, c3, c4, c5] (own_adv [c0, c1, c2, c3, c4, c5] (own_adv [c0, c1, c2, c3, c4, c5] (own_adv [c0, c1, c2, c3, c4, c5] (own_adv [c0, c1, c2, c3, c4, c5] (pN + 1)))))))), (.ref b1)])) _
            refine own_ldC X20 hx hZ e20 V_b1_13 (j := (Int32.ofNat (own_adv [c0, c1, c2, c3, c4, c5] (own_adv [c0, c1, c2, c3, c4, c5] (own_adv [c0, c1, c2, c3, c4, c5] (own_adv [c0, c1, c2, c3, c4, c5] (own_adv [c0, c1, c2, c3, c4, c5] (pN + 1)))))))) (own_ix rfl (own_lt6' hm151_21 (own_adv_le (own_adv_le (own_adv_le (own_adv_le (own_adv_le (by omega)))))))) (v := (.int ([c0, c1, c2, c3, c4, c5].getD (own_adv [c0, c1, c2, c3, c4, c5] (own_adv [c0, c1, c2, c3, c4, c5] (own_adv [c0, c1, c2, c3, c4, c5] (own_adv [c0, c1, c2, c3, c4, c5] (own_adv [c0, c1, c2, c3, c4, c5] (pN + 1)))))) 0))) (own_gd [c0, c1, c2, c3, c4, c5] (own_lt6' hm151_21 (own_adv_le (own_adv_le (own_adv_le (own_adv_le (own_adv_le (by omega)))))))) (g := (mkF m 158 #[.val (.long q0), .second, .val (.long q1), .second, .val (.int p2), .val (.ref b1), .val (.int (Int32.ofNat pN)), .val (.int (0 : Int32)), .val (.int (Int32.ofNat (own_adv [c0, c1, c2, c3, c4, c5] (own_adv [c0, c1, c2, c3, c4, c5] (own_adv [c0, c1, c2, c3, c4, c5] (own_adv [c0, c1, c2, c3, c4, c5] (own_adv [c0, c1, c2, c3, c4, c5] (pN + 1)))))))), .unset, .unset, .unset, .unset, .unset, .unset, .unset] [(.int (Int32.ofNat (own_adv [c0, c1, c2, c3, c4, c5] (own_adv [c0, c1, c2, c3, c4, c5] (own_adv [c0, c1, c2, c3, c4, c5] (own_adv [c0, c1, c2, c3, c4, c5] (own_adv [c0, c1, c2, c3, c4, c5] (pN + 1)))))))), (.ref b1)])) rfl rfl (hb hby at_158) _ ?_
            show Steps p.tables e below (T20.setTop (mkF m 159 #[.val (.long q0), .second, .val (.long q1), .second, .val (.int p2), .val (.ref b1), .val (.int (Int32.ofNat pN)), .val (.int (0 : Int32)), .val (.int (Int32.ofNat (own_adv [c0, c1, c2, c3, c4, c5] (own_adv [c0, c1, c2, c3, c4, c5] (own_adv [c0, c1, c2, c3, c4, c5] (own_adv [c0, c1, c2, c3, c4, c5] (own_adv [c0, c1, c2, c3, c4, c5] (pN + 1)))))))), .unset, .unset, .unset, .unset, .unset, .unset, .unset] [(.int ([c0, c1, c2, c3, c4, c5].getD (own_adv [c0, c1, c2, c3, c4, c5] (own_adv [c0, c1, c2, c3, c4, c5] (own_adv [c0, c1, c2, c3, c4, c5] (own_adv [c0, c1, c2, c3, c4, c5] (own_adv [c0, c1, c2, c3, c4, c5] (pN + 1)))))) 0))])) _
            refine XS.bipush X20.here hx rfl (hb hby at_159) ?_
            show Steps p.tables e below (T20.setTop (mkF m 161 #[.val (.long q0), .second, .val (.long q1), .second, .val (.int p2), .val (.ref b1), .val (.int (Int32.ofNat pN)), .val (.int (0 : Int32)), .val (.int (Int32.ofNat (own_adv [c0, c1, c2, c3, c4, c5] (own_adv [c0, c1, c2, c3, c4, c5] (own_adv [c0, c1, c2, c3, c4, c5] (own_adv [c0, c1, c2, c3, c4, c5] (own_adv [c0, c1, c2, c3, c4, c5] (pN + 1)))))))), .unset, .unset, .unset, .unset, .unset, .unset, .unset] [(.int (60 : Int32)), (.int ([c0, c1, c2, c3, c4, c5].getD (own_adv [c0, c1, c2, c3, c4, c5] (own_adv [c0, c1, c2, c3, c4, c5] (own_adv [c0, c1, c2, c3, c4, c5] (own_adv [c0, c1, c2, c3, c4, c5] (own_adv [c0, c1, c2, c3, c4, c5] (pN + 1)))))) 0))])) _
            exact k
          by_cases hm161_22 : ([c0, c1, c2, c3, c4, c5].getD (own_adv [c0, c1, c2, c3, c4, c5] (own_adv [c0, c1, c2, c3, c4, c5] (own_adv [c0, c1, c2, c3, c4, c5] (own_adv [c0, c1, c2, c3, c4, c5] (own_adv [c0, c1, c2, c3, c4, c5] (pN + 1)))))) 0) = (60 : Int32)
          · refine own_go (T' := T20) (g' := (mkF m 164 #[.val (.long q0), .second, .val (.long q1), .second, .val (.int p2), .val (.ref b1), .val (.int (Int32.ofNat pN)), .val (.int (0 : Int32)), .val (.int (Int32.ofNat (own_adv [c0, c1, c2, c3, c4, c5] (own_adv [c0, c1, c2, c3, c4, c5] (own_adv [c0, c1, c2, c3, c4, c5] (own_adv [c0, c1, c2, c3, c4, c5] (own_adv [c0, c1, c2, c3, c4, c5] (pN + 1)))))))), .unset, .unset, .unset, .unset, .unset, .unset, .unset] [])) (fun t k => ?_) ?_
            · refine XS.icmpNo X20.here hx rfl (hb hby at_161) rfl (teq hm161_22).2 ?_
              exact k
            refine own_go (T' := T20) (g' := (mkF m 171 #[.val (.long q0), .second, .val (.long q1), .second, .val (.int p2), .val (.ref b1), .val (.int (Int32.ofNat pN)), .val (.int ((Int32.ofNat (own_adv [c0, c1, c2, c3, c4, c5] (own_adv [c0, c1, c2, c3, c4, c5] (own_adv [c0, c1, c2, c3, c4, c5] (own_adv [c0, c1, c2, c3, c4, c5] (own_adv [c0, c1, c2, c3, c4, c5] (pN + 1))))))) - (Int32.ofNat pN))), .val (.int (Int32.ofNat (own_adv [c0, c1, c2, c3, c4, c5] (own_adv [c0, c1, c2, c3, c4, c5] (own_adv [c0, c1, c2, c3, c4, c5] (own_adv [c0, c1, c2, c3, c4, c5] (own_adv [c0, c1, c2, c3, c4, c5] (pN + 1)))))))), .unset, .unset, .unset, .unset, .unset, .unset, .unset] [])) (fun t k => ?_) ?_
            · show Steps p.tables e below (T20.setTop (mkF m 164 #[.val (.long q0), .second, .val (.long q1), .second, .val (.int p2), .val (.ref b1), .val (.int (Int32.ofNat pN)), .val (.int (0 : Int32)), .val (.int (Int32.ofNat (own_adv [c0, c1, c2, c3, c4, c5] (own_adv [c0, c1, c2, c3, c4, c5] (own_adv [c0, c1, c2, c3, c4, c5] (own_adv [c0, c1, c2, c3, c4, c5] (own_adv [c0, c1, c2, c3, c4, c5] (pN + 1)))))))), .unset, .unset, .unset, .unset, .unset, .unset, .unset] [])) t
              refine XS.iload X20.here hx rfl (hb hby at_164) rfl ?_
              show Steps p.tables e below (T20.setTop (mkF m 166 #[.val (.long q0), .second, .val (.long q1), .second, .val (.int p2), .val (.ref b1), .val (.int (Int32.ofNat pN)), .val (.int (0 : Int32)), .val (.int (Int32.ofNat (own_adv [c0, c1, c2, c3, c4, c5] (own_adv [c0, c1, c2, c3, c4, c5] (own_adv [c0, c1, c2, c3, c4, c5] (own_adv [c0, c1, c2, c3, c4, c5] (own_adv [c0, c1, c2, c3, c4, c5] (pN + 1)))))))), .unset, .unset, .unset, .unset, .unset, .unset, .unset] [(.int (Int32.ofNat (own_adv [c0, c1, c2, c3, c4, c5] (own_adv [c0, c1, c2, c3, c4, c5] (own_adv [c0, c1, c2, c3, c4, c5] (own_adv [c0, c1, c2, c3, c4, c5] (own_adv [c0, c1, c2, c3, c4, c5] (pN + 1))))))))])) _
              refine XS.iload X20.here hx rfl (hb hby at_166) rfl ?_
              show Steps p.tables e below (T20.setTop (mkF m 168 #[.val (.long q0), .second, .val (.long q1), .second, .val (.int p2), .val (.ref b1), .val (.int (Int32.ofNat pN)), .val (.int (0 : Int32)), .val (.int (Int32.ofNat (own_adv [c0, c1, c2, c3, c4, c5] (own_adv [c0, c1, c2, c3, c4, c5] (own_adv [c0, c1, c2, c3, c4, c5] (own_adv [c0, c1, c2, c3, c4, c5] (own_adv [c0, c1, c2, c3, c4, c5] (pN + 1)))))))), .unset, .unset, .unset, .unset, .unset, .unset, .unset] [(.int (Int32.ofNat pN)), (.int (Int32.ofNat (own_adv [c0, c1, c2, c3, c4, c5] (own_adv [c0, c1, c2, c3, c4, c5] (own_adv [c0, c1, c2, c3, c4, c5] (own_adv [c0, c1, c2, c3, c4, c5] (own_adv [c0, c1, c2, c3, c4, c5] (pN + 1))))))))])) _
              refine XS.isub X20.here hx rfl (hb hby at_168) rfl ?_
              show Steps p.tables e below (T20.setTop (mkF m 169 #[.val (.long q0), .second, .val (.long q1), .second, .val (.int p2), .val (.ref b1), .val (.int (Int32.ofNat pN)), .val (.int (0 : Int32)), .val (.int (Int32.ofNat (own_adv [c0, c1, c2, c3, c4, c5] (own_adv [c0, c1, c2, c3, c4, c5] (own_adv [c0, c1, c2, c3, c4, c5] (own_adv [c0, c1, c2, c3, c4, c5] (own_adv [c0, c1, c2, c3, c4, c5] (pN + 1)))))))), .unset, .unset, .unset, .unset, .unset, .unset, .unset] [(.int ((Int32.ofNat (own_adv [c0, c1, c2, c3, c4, c5] (own_adv [c0, c1, c2, c3, c4, c5] (own_adv [c0, c1, c2, c3, c4, c5] (own_adv [c0, c1, c2, c3, c4, c5] (own_adv [c0, c1, c2, c3, c4, c5] (pN + 1))))))) - (Int32.ofNat pN)))])) _
              refine XS.istore X20.here hx rfl (hb hby at_169) rfl (l' := #[.val (.long q0), .second, .val (.long q1), .second, .val (.int p2), .val (.ref b1), .val (.int (Int32.ofNat pN)), .val (.int ((Int32.ofNat (own_adv [c0, c1, c2, c3, c4, c5] (own_adv [c0, c1, c2, c3, c4, c5] (own_adv [c0, c1, c2, c3, c4, c5] (own_adv [c0, c1, c2, c3, c4, c5] (own_adv [c0, c1, c2, c3, c4, c5] (pN + 1))))))) - (Int32.ofNat pN))), .val (.int (Int32.ofNat (own_adv [c0, c1, c2, c3, c4, c5] (own_adv [c0, c1, c2, c3, c4, c5] (own_adv [c0, c1, c2, c3, c4, c5] (own_adv [c0, c1, c2, c3, c4, c5] (own_adv [c0, c1, c2, c3, c4, c5] (pN + 1)))))))), .unset, .unset, .unset, .unset, .unset, .unset, .unset]) rfl ?_
              show Steps p.tables e below (T20.setTop (mkF m 171 #[.val (.long q0), .second, .val (.long q1), .second, .val (.int p2), .val (.ref b1), .val (.int (Int32.ofNat pN)), .val (.int ((Int32.ofNat (own_adv [c0, c1, c2, c3, c4, c5] (own_adv [c0, c1, c2, c3, c4, c5] (own_adv [c0, c1, c2, c3, c4, c5] (own_adv [c0, c1, c2, c3, c4, c5] (own_adv [c0, c1, c2, c3, c4, c5] (pN + 1))))))) - (Int32.ofNat pN))), .val (.int (Int32.ofNat (own_adv [c0, c1, c2, c3, c4, c5] (own_adv [c0, c1, c2, c3, c4, c5] (own_adv [c0, c1, c2, c3, c4, c5] (own_adv [c0, c1, c2, c3, c4, c5] (own_adv [c0, c1, c2, c3, c4, c5] (pN + 1)))))))), .unset, .unset, .unset, .unset, .unset, .unset, .unset] [])) _
              exact k
            exact w23 _ _ X20 e20 N20 ((Int32.ofNat (own_adv [c0, c1, c2, c3, c4, c5] (own_adv [c0, c1, c2, c3, c4, c5] (own_adv [c0, c1, c2, c3, c4, c5] (own_adv [c0, c1, c2, c3, c4, c5] (own_adv [c0, c1, c2, c3, c4, c5] (pN + 1))))))) - (Int32.ofNat pN)) _ (by rw [if_pos hm83_14, if_pos hm93_15, if_pos hm151_21, if_pos hm161_22]) (One.val rfl)
          · refine own_go (T' := T20) (g' := (mkF m 171 #[.val (.long q0), .second, .val (.long q1), .second, .val (.int p2), .val (.ref b1), .val (.int (Int32.ofNat pN)), .val (.int (0 : Int32)), .val (.int (Int32.ofNat (own_adv [c0, c1, c2, c3, c4, c5] (own_adv [c0, c1, c2, c3, c4, c5] (own_adv [c0, c1, c2, c3, c4, c5] (own_adv [c0, c1, c2, c3, c4, c5] (own_adv [c0, c1, c2, c3, c4, c5] (pN + 1)))))))), .unset, .unset, .unset, .unset, .unset, .unset, .unset] [])) (fun t k => ?_) ?_
            · refine XS.icmpYes X20.here hx rfl (pc0 := 161) (pc' := 171) rfl (hb hby at_161) rfl (feq hm161_22).2 (by decide) (by decide) ?_
              exact k
            exact w23 _ _ X20 e20 N20 (0 : Int32) _ (by rw [if_pos hm83_14, if_pos hm93_15, if_pos hm151_21, if_neg hm161_22]) (One.val rfl)
        · refine own_go (T' := T20) (g' := (mkF m 171 #[.val (.long q0), .second, .val (.long q1), .second, .val (.int p2), .val (.ref b1), .val (.int (Int32.ofNat pN)), .val (.int (0 : Int32)), .val (.int (Int32.ofNat (own_adv [c0, c1, c2, c3, c4, c5] (own_adv [c0, c1, c2, c3, c4, c5] (own_adv [c0, c1, c2, c3, c4, c5] (own_adv [c0, c1, c2, c3, c4, c5] (own_adv [c0, c1, c2, c3, c4, c5] (pN + 1)))))))), .unset, .unset, .unset, .unset, .unset, .unset, .unset] [])) (fun t k => ?_) ?_
          · refine XS.icmpYes X20.here hx rfl (pc0 := 151) (pc' := 171) rfl (hb hby at_151) rfl (flt hm151_21).2.1 (by decide) (by decide) ?_
            exact k
          exact w23 _ _ X20 e20 N20 (0 : Int32) _ (by rw [if_pos hm83_14, if_pos hm93_15, if_neg hm151_21]) (One.val rfl)
      · refine own_go (T' := T13) (g' := (mkF m 171 #[.val (.long q0), .second, .val (.long q1), .second, .val (.int p2), .val (.ref b1), .val (.int (Int32.ofNat pN)), .val (.int (0 : Int32)), .unset, .unset, .unset, .unset, .unset, .unset, .unset, .unset] [])) (fun t k => ?_) ?_
        · refine XS.icmpYes X13.here hx rfl (pc0 := 93) (pc' := 171) rfl (hb hby at_93) rfl (feq hm93_15).2 (by decide) (by decide) ?_
          exact k
        exact w23 _ _ X13 e13 N13 (0 : Int32) _ (by rw [if_pos hm83_14, if_neg hm93_15]) One.u
    · refine own_go (T' := T13) (g' := (mkF m 171 #[.val (.long q0), .second, .val (.long q1), .second, .val (.int p2), .val (.ref b1), .val (.int (Int32.ofNat pN)), .val (.int (0 : Int32)), .unset, .unset, .unset, .unset, .unset, .unset, .unset, .unset] [])) (fun t k => ?_) ?_
      · refine XS.icmpYes X13.here hx rfl (pc0 := 83) (pc' := 171) rfl (hb hby at_83) rfl (flt hm83_14).2.1 (by decide) (by decide) ?_
        exact k
      exact w23 _ _ X13 e13 N13 (0 : Int32) _ (by rw [if_neg hm83_14]) One.u
  intro T23 L23 X23 e23 N23 b23_l7 b23_l8 h_b23_l7 h_b23_l8
  rw [own_exp hp6 (own_a5 hp6) h_b23_l7]
  obtain ⟨T24, h24, X24, e24, E24, A24, D24, -, st24⟩ := newO X23 hx hZ hown (hw _ (List.mem_of_getElem? (i := 7) rfl)) (hw _ (List.mem_of_getElem? (i := 8) rfl)) (hw _ (List.mem_of_getElem? (i := 9) rfl)) e23 (g := (mkF m 171 #[.val (.long q0), .second, .val (.long q1), .second, .val (.int p2), .val (.ref b1), .val (.int (Int32.ofNat pN)), .val (.int (Int32.ofNat (own_cnt [c0, c1, c2, c3, c4, c5] pN))), b23_l8, .unset, .unset, .unset, .unset, .unset, .unset, .unset] [])) rfl (hb hby at_171) (by decide) (by decide)
  obtain ⟨b24, g24⟩ : ∃ z, z = h13.size := ⟨_, rfl⟩
  rw [← g24] at A24 D24 st24
  have lt_b1_b24 : b1 < b24 := Nat.lt_of_lt_of_le V_b1_13.lt (Nat.le_of_eq g24.symm)
  have ga_b24 : n0 ≤ b24 := Nat.le_trans sz_13 (Nat.le_of_eq g24.symm)
  have sz_24 := Nat.le_trans sz_13 E24.1
  have V_b1_24 := V_b1_13.ext E24
  have F_b24_line_24 : Fld Z h24 b24 "com/example/virta/virta/Input" "line" "I" (.int (0 : Int32)) := D24 (Or.inl (hw _ (List.mem_of_getElem? (i := 17) rfl))) (ty := .int) (by decide)
  have F_b24_column_24 : Fld Z h24 b24 "com/example/virta/virta/Input" "column" "I" (.int (0 : Int32)) := D24 (Or.inl (hw _ (List.mem_of_getElem? (i := 19) rfl))) (ty := .int) (by decide)
  have F_b24_atStart_24 : Fld Z h24 b24 "com/example/virta/virta/Input" "atStart" "Z" (.int (0 : Int32)) := D24 (Or.inl (hw _ (List.mem_of_getElem? (i := 21) rfl))) (ty := .boolean) (by decide)
  have F_b24_reader_24 : Fld Z h24 b24 "com/example/virta/virta/Input" "reader" "Ljava/io/Reader;" .null := D24 (Or.inr (hw _ (List.mem_of_getElem? (i := 23) rfl))) (ty := (.object "java/io/Reader")) (by decide)
  have F_b24_buffer_24 : Fld Z h24 b24 "com/example/virta/virta/Input" "buffer" "[C" .null := D24 (Or.inr (hw _ (List.mem_of_getElem? (i := 25) rfl))) (ty := (.array .char)) (by decide)
  have F_b24_publicId_24 : Fld Z h24 b24 "com/example/virta/virta/Input" "publicId" "Ljava/lang/String;" .null := D24 (Or.inr (hw _ (List.mem_of_getElem? (i := 27) rfl))) (ty := (.object "java/lang/String")) (by decide)
  have F_b24_systemId_24 : Fld Z h24 b24 "com/example/virta/virta/Input" "systemId" "Ljava/lang/String;" .null := D24 (Or.inr (hw _ (List.mem_of_getElem? (i := 29) rfl))) (ty := (.object "java/lang/String")) (by decide)
  have F_b24_base_24 : Fld Z h24 b24 "com/example/virta/virta/Input" "base" "Ljava/lang/String;" .null := D24 (Or.inr (hw _ (List.mem_of_getElem? (i := 31) rfl))) (ty := (.object "java/lang/String")) (by decide)
  have F_b24_givenEncoding_24 : Fld Z h24 b24 "com/example/virta/virta/Input" "givenEncoding" "Ljava/lang/String;" .null := D24 (Or.inr (hw _ (List.mem_of_getElem? (i := 33) rfl))) (ty := (.object "java/lang/String")) (by decide)
  have F_b24_digestLanes_24 : Fld Z h24 b24 "com/example/virta/virta/Input" "digestLanes" "[J" .null := D24 (Or.inr (hw _ (List.mem_of_getElem? (i := 35) rfl))) (ty := (.array .long)) (by decide)
  have F_b24_checked_24 : Fld Z h24 b24 "com/example/virta/virta/Input" "checked" "I" (.int (0 : Int32)) := D24 (Or.inl (hw _ (List.mem_of_getElem? (i := 37) rfl))) (ty := .int) (by decide)
  have F_b24_limit_24 : Fld Z h24 b24 "com/example/virta/virta/Input" "limit" "I" (.int (0 : Int32)) := D24 (Or.inl (hw _ (List.mem_of_getElem? (i := 39) rfl))) (ty := .int) (by decide)
  have F_b24_checkedSoFar_24 : Fld Z h24 b24 "com/example/virta/virta/Input" "checkedSoFar" "J" (.long (0 : Int64)) := D24 (Or.inl (hw _ (List.mem_of_getElem? (i := 41) rfl))) (ty := .long) (by decide)
  have F_b24_endOfText_24 : Fld Z h24 b24 "com/example/virta/virta/Input" "endOfText" "Z" (.int (0 : Int32)) := D24 (Or.inl (hw _ (List.mem_of_getElem? (i := 43) rfl))) (ty := .boolean) (by decide)
  have F_b24_position_24 : Fld Z h24 b24 "com/example/virta/virta/Input" "position" "I" (.int (0 : Int32)) := D24 (Or.inl (hw _ (List.mem_of_getElem? (i := 55) rfl))) (ty := .int) (by decide)
  refine own_go (T' := T24) (g' := (mkF m 174 #[.val (.long q0), .second, .val (.long q1), .second, .val (.int p2), .val (.ref b1), .val (.int (Int32.ofNat pN)), .val (.int (Int32.ofNat (own_cnt [c0, c1, c2, c3, c4, c5] pN))), b23_l8, .unset, .unset, .unset, .unset, .unset, .unset, .unset] [(.ref b24)])) st24 ?_
  refine own_go (T' := T24) (g' := (mkF m 177 #[.val (.long q0), .second, .val (.long q1), .second, .val (.int p2), .val (.ref b1), .val (.int (Int32.ofNat pN)), .val (.int (Int32.ofNat (own_cnt [c0, c1, c2, c3, c4, c5] pN))), b23_l8, .unset, .unset, .unset, .unset, .unset, .unset, .unset] [(.ref b1), (.ref b24), (.ref b24)])) (fun t k => ?_) ?_
  · show Steps p.tables e below (T24.setTop (mkF m 174 #[.val (.long q0), .second, .val (.long q1), .second, .val (.int p2), .val (.ref b1), .val (.int (Int32.ofNat pN)), .val (.int (Int32.ofNat (own_cnt [c0, c1, c2, c3, c4, c5] pN))), b23_l8, .unset, .unset, .unset, .unset, .unset, .unset, .unset] [(.ref b24)])) t
    refine XS.dup X24.here hx rfl (hb hby at_174) rfl rfl ?_
    show Steps p.tables e below (T24.setTop (mkF m 175 #[.val (.long q0), .second, .val (.long q1), .second, .val (.int p2), .val (.ref b1), .val (.int (Int32.ofNat pN)), .val (.int (Int32.ofNat (own_cnt [c0, c1, c2, c3, c4, c5] pN))), b23_l8, .unset, .unset, .unset, .unset, .unset, .unset, .unset] [(.ref b24), (.ref b24)])) _
    refine XS.aload X24.here hx rfl (hb hby at_175) rfl rfl ?_
    show Steps p.tables e below (T24.setTop (mkF m 177 #[.val (.long q0), .second, .val (.long q1), .second, .val (.int p2), .val (.ref b1), .val (.int (Int32.ofNat pN)), .val (.int (Int32.ofNat (own_cnt [c0, c1, c2, c3, c4, c5] pN))), b23_l8, .unset, .unset, .unset, .unset, .unset, .unset, .unset] [(.ref b1), (.ref b24), (.ref b24)])) _
    exact k
  obtain ⟨_, T25, L25, X25, N25, ⟨rfl, Q25k, ⟨Q25e, Q25p, Q25c, Q25l, Q25b, Q25h⟩⟩, st25⟩ := own_callI X24 hx hZ rfl hown (hw _ (List.mem_of_getElem? (i := 10) rfl)) (hw _ (List.mem_of_getElem? (i := 11) rfl)) (hw _ (List.mem_of_getElem? (i := 9) rfl)) (hw _ (List.mem_of_getElem? (i := 12) rfl)) (by decide) (a := b24) (argsL := [(.ref b1)]) (rest := [(.ref b24)]) (rm2 l Z a0 hw b24 b1 k1 (6 : Int32) [(.int c0), (.int c1), (.int c2), (.int c3), (.int c4), (.int c5)] (.int (0 : Int32)) h24 n0 sz_24 ga_b24 V_b1_24 lt_b1_b24 A24 F_b24_line_24 F_b24_column_24 F_b24_atStart_24 F_b24_reader_24 F_b24_buffer_24 F_b24_publicId_24 F_b24_systemId_24 F_b24_base_24 F_b24_givenEncoding_24 F_b24_digestLanes_24 F_b24_checked_24 F_b24_limit_24 F_b24_checkedSoFar_24 F_b24_endOfText_24 F_b24_position_24) (W := 1) (by decide) (by decide) (g := (mkF m 177 #[.val (.long q0), .second, .val (.long q1), .second, .val (.int p2), .val (.ref b1), .val (.int (Int32.ofNat pN)), .val (.int (Int32.ofNat (own_cnt [c0, c1, c2, c3, c4, c5] pN))), b23_l8, .unset, .unset, .unset, .unset, .unset, .unset, .unset] [(.ref b1), (.ref b24), (.ref b24)])) rfl (by rw [hml]; rfl) pd_4 rfl rfl (by show 2 * 0 + _ ≤ _; exact Nat.le_of_eq rfl) (hb hby at_177) e24 (by decide) (by decide) N23
  have V_b1_25 := V_b1_24.keep Q25k (ninS (Nat.ne_of_lt lt_b1_b24) nin0)
  have E_b24_25 := Exa.keep A24 Q25k
  have sz_25 := Nat.le_trans sz_24 Q25k.1
  refine own_go (T' := T25) (g' := (mkF m 180 #[.val (.long q0), .second, .val (.long q1), .second, .val (.int p2), .val (.ref b1), .val (.int (Int32.ofNat pN)), .val (.int (Int32.ofNat (own_cnt [c0, c1, c2, c3, c4, c5] pN))), b23_l8, .unset, .unset, .unset, .unset, .unset, .unset, .unset] [(.ref b24)])) st25 ?_
  refine own_go (T' := T25) (g' := (mkF m 186 #[.val (.long q0), .second, .val (.long q1), .second, .val (.int p2), .val (.ref b1), .val (.int (Int32.ofNat pN)), .val (.int (Int32.ofNat (own_cnt [c0, c1, c2, c3, c4, c5] pN))), .val (.ref b24), .unset, .unset, .unset, .unset, .unset, .unset, .unset] [(.int (Int32.ofNat pN)), (.ref b24)])) (fun t k => ?_) ?_
  · show Steps p.tables e below (T25.setTop (mkF m 180 #[.val (.long q0), .second, .val (.long q1), .second, .val (.int p2), .val (.ref b1), .val (.int (Int32.ofNat pN)), .val (.int (Int32.ofNat (own_cnt [c0, c1, c2, c3, c4, c5] pN))), b23_l8, .unset, .unset, .unset, .unset, .unset, .unset, .unset] [(.ref b24)])) t
    refine XS.astore X25.here hx rfl (hb hby at_180) rfl rfl (l' := #[.val (.long q0), .second, .val (.long q1), .second, .val (.int p2), .val (.ref b1), .val (.int (Int32.ofNat pN)), .val (.int (Int32.ofNat (own_cnt [c0, c1, c2, c3, c4, c5] pN))), .val (.ref b24), .unset, .unset, .unset, .unset, .unset, .unset, .unset]) (XS.store1 (o := b23_l8) rfl h_b23_l8 rfl) ?_
    show Steps p.tables e below (T25.setTop (mkF m 182 #[.val (.long q0), .second, .val (.long q1), .second, .val (.int p2), .val (.ref b1), .val (.int (Int32.ofNat pN)), .val (.int (Int32.ofNat (own_cnt [c0, c1, c2, c3, c4, c5] pN))), .val (.ref b24), .unset, .unset, .unset, .unset, .unset, .unset, .unset] [])) _
    refine XS.aload X25.here hx rfl (hb hby at_182) rfl rfl ?_
    show Steps p.tables e below (T25.setTop (mkF m 184 #[.val (.long q0), .second, .val (.long q1), .second, .val (.int p2), .val (.ref b1), .val (.int (Int32.ofNat pN)), .val (.int (Int32.ofNat (own_cnt [c0, c1, c2, c3, c4, c5] pN))), .val (.ref b24), .unset, .unset, .unset, .unset, .unset, .unset, .unset] [(.ref b24)])) _
    refine XS.iload X25.here hx rfl (hb hby at_184) rfl ?_
    show Steps p.tables e below (T25.setTop (mkF m 186 #[.val (.long q0), .second, .val (.long q1), .second, .val (.int p2), .val (.ref b1), .val (.int (Int32.ofNat pN)), .val (.int (Int32.ofNat (own_cnt [c0, c1, c2, c3, c4, c5] pN))), .val (.ref b24), .unset, .unset, .unset, .unset, .unset, .unset, .unset] [(.int (Int32.ofNat pN)), (.ref b24)])) _
    exact k
  obtain ⟨_, T26, L26, X26, N26, ⟨rfl, Q26k, ⟨Q26e, Q26p, Q26c, Q26l, Q26b, Q26h⟩⟩, st26⟩ := own_callV X25 hx hZ hown (hw _ (List.mem_of_getElem? (i := 44) rfl)) (hw _ (List.mem_of_getElem? (i := 45) rfl)) (hw _ (List.mem_of_getElem? (i := 47) rfl)) (hw _ (List.mem_of_getElem? (i := 46) rfl)) (hw _ (List.mem_of_getElem? (i := 9) rfl)) (hw _ (List.mem_of_getElem? (i := 48) rfl)) (by decide) (a := b24) (argsL := [(.int (Int32.ofNat pN))]) (rest := []) (rm4 l Z a0 hw b24 (Int32.ofNat pN) (0 : Int32) (1 : Int32) (1 : Int32) b1 (6 : Int32) T25.heap n0 sz_25 ga_b24 ⟨Q25e, Q25p, Q25c, Q25l, Q25b, Q25h⟩) (W := 0) (by decide) (by decide) Q25e (g := (mkF m 186 #[.val (.long q0), .second, .val (.long q1), .second, .val (.int p2), .val (.ref b1), .val (.int (Int32.ofNat pN)), .val (.int (Int32.ofNat (own_cnt [c0, c1, c2, c3, c4, c5] pN))), .val (.ref b24), .unset, .unset, .unset, .unset, .unset, .unset, .unset] [(.int (Int32.ofNat pN)), (.ref b24)])) rfl (by rw [hml]; rfl) pd_5 rfl rfl (by show 2 * 0 + _ ≤ _; exact Nat.le_of_eq rfl) (hb hby at_186) rfl (by decide) (by decide) N25
  have V_b1_26 := V_b1_25.keep Q26k (ninS (Nat.ne_of_lt lt_b1_b24) nin0)
  have E_b24_26 := Exa.keep Q25e Q26k
  have sz_26 := Nat.le_trans sz_25 Q26k.1
  refine own_go (T' := T26) (g' := (mkF m 189 #[.val (.long q0), .second, .val (.long q1), .second, .val (.int p2), .val (.ref b1), .val (.int (Int32.ofNat pN)), .val (.int (Int32.ofNat (own_cnt [c0, c1, c2, c3, c4, c5] pN))), .val (.ref b24), .unset, .unset, .unset, .unset, .unset, .unset, .unset] [])) st26 ?_
  refine own_go (T' := T26) (g' := (mkF m 191 #[.val (.long q0), .second, .val (.long q1), .second, .val (.int p2), .val (.ref b1), .val (.int (Int32.ofNat pN)), .val (.int (Int32.ofNat (own_cnt [c0, c1, c2, c3, c4, c5] pN))), .val (.ref b24), .unset, .unset, .unset, .unset, .unset, .unset, .unset] [(.ref b24)])) (fun t k => ?_) ?_
  · show Steps p.tables e below (T26.setTop (mkF m 189 #[.val (.long q0), .second, .val (.long q1), .second, .val (.int p2), .val (.ref b1), .val (.int (Int32.ofNat pN)), .val (.int (Int32.ofNat (own_cnt [c0, c1, c2, c3, c4, c5] pN))), .val (.ref b24), .unset, .unset, .unset, .unset, .unset, .unset, .unset] [])) t
    refine XS.aload X26.here hx rfl (hb hby at_189) rfl rfl ?_
    show Steps p.tables e below (T26.setTop (mkF m 191 #[.val (.long q0), .second, .val (.long q1), .second, .val (.int p2), .val (.ref b1), .val (.int (Int32.ofNat pN)), .val (.int (Int32.ofNat (own_cnt [c0, c1, c2, c3, c4, c5] pN))), .val (.ref b24), .unset, .unset, .unset, .unset, .unset, .unset, .unset] [(.ref b24)])) _
    exact k
  obtain ⟨_, T27, L27, X27, N27, ⟨rfl, Q27k, ⟨Q27e, Q27p, Q27c, Q27l, Q27b, Q27h⟩⟩, st27⟩ := own_callV X26 hx hZ hown (hw _ (List.mem_of_getElem? (i := 56) rfl)) (hw _ (List.mem_of_getElem? (i := 57) rfl)) (hw _ (List.mem_of_getElem? (i := 59) rfl)) (hw _ (List.mem_of_getElem? (i := 58) rfl)) (hw _ (List.mem_of_getElem? (i := 9) rfl)) (hw _ (List.mem_of_getElem? (i := 60) rfl)) (by decide) (a := b24) (argsL := []) (rest := []) (rm6 l Z a0 hw b24 ((0 : Int32) + (Int32.ofNat pN)) ((1 : Int32) + (Int32.ofNat pN)) (1 : Int32) b1 (6 : Int32) k1 (6 : Int32) [c0, c1, c2, c3, c4, c5] pN T26.heap n0 sz_26 ga_b24 ⟨Q26e, Q26p, Q26c, Q26l, Q26b, Q26h⟩ V_b1_26 lt_b1_b24 rfl (Int32.zero_add _) rfl hp6) (W := 0) (by decide) (by decide) Q26e (g := (mkF m 191 #[.val (.long q0), .second, .val (.long q1), .second, .val (.int p2), .val (.ref b1), .val (.int (Int32.ofNat pN)), .val (.int (Int32.ofNat (own_cnt [c0, c1, c2, c3, c4, c5] pN))), .val (.ref b24), .unset, .unset, .unset, .unset, .unset, .unset, .unset] [(.ref b24)])) rfl (by rw [hml]; rfl) pd_6 rfl rfl (by show 2 * 0 + _ ≤ _; exact Nat.le_of_eq rfl) (hb hby at_191) rfl (by decide) (by decide) N26
  have V_b1_27 := V_b1_26.keep Q27k (ninS (Nat.ne_of_lt lt_b1_b24) nin0)
  have E_b24_27 := Exa.keep Q26e Q27k
  have sz_27 := Nat.le_trans sz_26 Q27k.1
  refine own_go (T' := T27) (g' := (mkF m 194 #[.val (.long q0), .second, .val (.long q1), .second, .val (.int p2), .val (.ref b1), .val (.int (Int32.ofNat pN)), .val (.int (Int32.ofNat (own_cnt [c0, c1, c2, c3, c4, c5] pN))), .val (.ref b24), .unset, .unset, .unset, .unset, .unset, .unset, .unset] [(.int (Int32.ofNat (own_cnt [c0, c1, c2, c3, c4, c5] pN)))])) st27 ?_
  refine own_go (T' := T27) (g' := (mkF m 198 #[.val (.long q0), .second, .val (.long q1), .second, .val (.int p2), .val (.ref b1), .val (.int (Int32.ofNat pN)), .val (.int (Int32.ofNat (own_cnt [c0, c1, c2, c3, c4, c5] pN))), .val (.ref b24), .val (.int (Int32.ofNat (own_cnt [c0, c1, c2, c3, c4, c5] pN))), .unset, .unset, .unset, .unset, .unset, .unset] [(.ref b24)])) (fun t k => ?_) ?_
  · show Steps p.tables e below (T27.setTop (mkF m 194 #[.val (.long q0), .second, .val (.long q1), .second, .val (.int p2), .val (.ref b1), .val (.int (Int32.ofNat pN)), .val (.int (Int32.ofNat (own_cnt [c0, c1, c2, c3, c4, c5] pN))), .val (.ref b24), .unset, .unset, .unset, .unset, .unset, .unset, .unset] [(.int (Int32.ofNat (own_cnt [c0, c1, c2, c3, c4, c5] pN)))])) t
    refine XS.istore X27.here hx rfl (hb hby at_194) rfl (l' := #[.val (.long q0), .second, .val (.long q1), .second, .val (.int p2), .val (.ref b1), .val (.int (Int32.ofNat pN)), .val (.int (Int32.ofNat (own_cnt [c0, c1, c2, c3, c4, c5] pN))), .val (.ref b24), .val (.int (Int32.ofNat (own_cnt [c0, c1, c2, c3, c4, c5] pN))), .unset, .unset, .unset, .unset, .unset, .unset]) rfl ?_
    show Steps p.tables e below (T27.setTop (mkF m 196 #[.val (.long q0), .second, .val (.long q1), .second, .val (.int p2), .val (.ref b1), .val (.int (Int32.ofNat pN)), .val (.int (Int32.ofNat (own_cnt [c0, c1, c2, c3, c4, c5] pN))), .val (.ref b24), .val (.int (Int32.ofNat (own_cnt [c0, c1, c2, c3, c4, c5] pN))), .unset, .unset, .unset, .unset, .unset, .unset] [])) _
    refine XS.aload X27.here hx rfl (hb hby at_196) rfl rfl ?_
    show Steps p.tables e below (T27.setTop (mkF m 198 #[.val (.long q0), .second, .val (.long q1), .second, .val (.int p2), .val (.ref b1), .val (.int (Int32.ofNat pN)), .val (.int (Int32.ofNat (own_cnt [c0, c1, c2, c3, c4, c5] pN))), .val (.ref b24), .val (.int (Int32.ofNat (own_cnt [c0, c1, c2, c3, c4, c5] pN))), .unset, .unset, .unset, .unset, .unset, .unset] [(.ref b24)])) _
    exact k
  obtain ⟨_, T28, L28, X28, N28, ⟨rfl, e28⟩, st28⟩ := own_callV X27 hx hZ hown (hw _ (List.mem_of_getElem? (i := 61) rfl)) (hw _ (List.mem_of_getElem? (i := 62) rfl)) (hw _ (List.mem_of_getElem? (i := 64) rfl)) (hw _ (List.mem_of_getElem? (i := 63) rfl)) (hw _ (List.mem_of_getElem? (i := 9) rfl)) (hw _ (List.mem_of_getElem? (i := 65) rfl)) (by decide) (a := b24) (argsL := []) (rest := []) (rm7 l Z a0 hw b24 (Int32.ofNat (pN + (own_cnt [c0, c1, c2, c3, c4, c5] pN))) (own_col [c0, c1, c2, c3, c4, c5] pN ((1 : Int32) + (Int32.ofNat pN))) (own_ln [c0, c1, c2, c3, c4, c5] pN (1 : Int32)) b1 (6 : Int32) T27.heap n0 ⟨Q27e, Q27p, Q27c, Q27l, Q27b, Q27h⟩) (W := 0) (by decide) (by decide) Q27e (g := (mkF m 198 #[.val (.long q0), .second, .val (.long q1), .second, .val (.int p2), .val (.ref b1), .val (.int (Int32.ofNat pN)), .val (.int (Int32.ofNat (own_cnt [c0, c1, c2, c3, c4, c5] pN))), .val (.ref b24), .val (.int (Int32.ofNat (own_cnt [c0, c1, c2, c3, c4, c5] pN))), .unset, .unset, .unset, .unset, .unset, .unset] [(.ref b24)])) rfl (by rw [hml]; rfl) pd_6 rfl rfl (by show 2 * 0 + _ ≤ _; exact Nat.le_of_eq rfl) (hb hby at_198) rfl (by decide) (by decide) N27
  refine own_go (T' := T28) (g' := (mkF m 201 #[.val (.long q0), .second, .val (.long q1), .second, .val (.int p2), .val (.ref b1), .val (.int (Int32.ofNat pN)), .val (.int (Int32.ofNat (own_cnt [c0, c1, c2, c3, c4, c5] pN))), .val (.ref b24), .val (.int (Int32.ofNat (own_cnt [c0, c1, c2, c3, c4, c5] pN))), .unset, .unset, .unset, .unset, .unset, .unset] [(.int (Int32.ofNat (pN + (own_cnt [c0, c1, c2, c3, c4, c5] pN))))])) st28 ?_
  refine own_go (T' := T28) (g' := (mkF m 205 #[.val (.long q0), .second, .val (.long q1), .second, .val (.int p2), .val (.ref b1), .val (.int (Int32.ofNat pN)), .val (.int (Int32.ofNat (own_cnt [c0, c1, c2, c3, c4, c5] pN))), .val (.ref b24), .val (.int (Int32.ofNat (own_cnt [c0, c1, c2, c3, c4, c5] pN))), .val (.int (Int32.ofNat (pN + (own_cnt [c0, c1, c2, c3, c4, c5] pN)))), .unset, .unset, .unset, .unset, .unset] [(.ref b24)])) (fun t k => ?_) ?_
  · show Steps p.tables e below (T28.setTop (mkF m 201 #[.val (.long q0), .second, .val (.long q1), .second, .val (.int p2), .val (.ref b1), .val (.int (Int32.ofNat pN)), .val (.int (Int32.ofNat (own_cnt [c0, c1, c2, c3, c4, c5] pN))), .val (.ref b24), .val (.int (Int32.ofNat (own_cnt [c0, c1, c2, c3, c4, c5] pN))), .unset, .unset, .unset, .unset, .unset, .unset] [(.int (Int32.ofNat (pN + (own_cnt [c0, c1, c2, c3, c4, c5] pN))))])) t
    refine XS.istore X28.here hx rfl (hb hby at_201) rfl (l' := #[.val (.long q0), .second, .val (.long q1), .second, .val (.int p2), .val (.ref b1), .val (.int (Int32.ofNat pN)), .val (.int (Int32.ofNat (own_cnt [c0, c1, c2, c3, c4, c5] pN))), .val (.ref b24), .val (.int (Int32.ofNat (own_cnt [c0, c1, c2, c3, c4, c5] pN))), .val (.int (Int32.ofNat (pN + (own_cnt [c0, c1, c2, c3, c4, c5] pN)))), .unset, .unset, .unset, .unset, .unset]) rfl ?_
    show Steps p.tables e below (T28.setTop (mkF m 203 #[.val (.long q0), .second, .val (.long q1), .second, .val (.int p2), .val (.ref b1), .val (.int (Int32.ofNat pN)), .val (.int (Int32.ofNat (own_cnt [c0, c1, c2, c3, c4, c5] pN))), .val (.ref b24), .val (.int (Int32.ofNat (own_cnt [c0, c1, c2, c3, c4, c5] pN))), .val (.int (Int32.ofNat (pN + (own_cnt [c0, c1, c2, c3, c4, c5] pN)))), .unset, .unset, .unset, .unset, .unset] [])) _
    refine XS.aload X28.here hx rfl (hb hby at_203) rfl rfl ?_
    show Steps p.tables e below (T28.setTop (mkF m 205 #[.val (.long q0), .second, .val (.long q1), .second, .val (.int p2), .val (.ref b1), .val (.int (Int32.ofNat pN)), .val (.int (Int32.ofNat (own_cnt [c0, c1, c2, c3, c4, c5] pN))), .val (.ref b24), .val (.int (Int32.ofNat (own_cnt [c0, c1, c2, c3, c4, c5] pN))), .val (.int (Int32.ofNat (pN + (own_cnt [c0, c1, c2, c3, c4, c5] pN)))), .unset, .unset, .unset, .unset, .unset] [(.ref b24)])) _
    exact k
  obtain ⟨_, T29, L29, X29, N29, ⟨rfl, e29⟩, st29⟩ := own_callV X28 hx hZ hown (hw _ (List.mem_of_getElem? (i := 66) rfl)) (hw _ (List.mem_of_getElem? (i := 67) rfl)) (hw _ (List.mem_of_getElem? (i := 69) rfl)) (hw _ (List.mem_of_getElem? (i := 68) rfl)) (hw _ (List.mem_of_getElem? (i := 9) rfl)) (hw _ (List.mem_of_getElem? (i := 70) rfl)) (by decide) (a := b24) (argsL := []) (rest := []) (rm8 l Z a0 hw b24 (Int32.ofNat (pN + (own_cnt [c0, c1, c2, c3, c4, c5] pN))) (own_col [c0, c1, c2, c3, c4, c5] pN ((1 : Int32) + (Int32.ofNat pN))) (own_ln [c0, c1, c2, c3, c4, c5] pN (1 : Int32)) b1 (6 : Int32) T27.heap n0 ⟨Q27e, Q27p, Q27c, Q27l, Q27b, Q27h⟩) (W := 0) (by decide) (by decide) Q27e (g := (mkF m 205 #[.val (.long q0), .second, .val (.long q1), .second, .val (.int p2), .val (.ref b1), .val (.int (Int32.ofNat pN)), .val (.int (Int32.ofNat (own_cnt [c0, c1, c2, c3, c4, c5] pN))), .val (.ref b24), .val (.int (Int32.ofNat (own_cnt [c0, c1, c2, c3, c4, c5] pN))), .val (.int (Int32.ofNat (pN + (own_cnt [c0, c1, c2, c3, c4, c5] pN)))), .unset, .unset, .unset, .unset, .unset] [(.ref b24)])) rfl (by rw [hml]; rfl) pd_6 rfl rfl (by show 2 * 0 + _ ≤ _; exact Nat.le_of_eq rfl) (hb hby at_205) e28 (by decide) (by decide) N28
  refine own_go (T' := T29) (g' := (mkF m 208 #[.val (.long q0), .second, .val (.long q1), .second, .val (.int p2), .val (.ref b1), .val (.int (Int32.ofNat pN)), .val (.int (Int32.ofNat (own_cnt [c0, c1, c2, c3, c4, c5] pN))), .val (.ref b24), .val (.int (Int32.ofNat (own_cnt [c0, c1, c2, c3, c4, c5] pN))), .val (.int (Int32.ofNat (pN + (own_cnt [c0, c1, c2, c3, c4, c5] pN)))), .unset, .unset, .unset, .unset, .unset] [(.int (own_ln [c0, c1, c2, c3, c4, c5] pN (1 : Int32)))])) st29 ?_
  refine own_go (T' := T29) (g' := (mkF m 212 #[.val (.long q0), .second, .val (.long q1), .second, .val (.int p2), .val (.ref b1), .val (.int (Int32.ofNat pN)), .val (.int (Int32.ofNat (own_cnt [c0, c1, c2, c3, c4, c5] pN))), .val (.ref b24), .val (.int (Int32.ofNat (own_cnt [c0, c1, c2, c3, c4, c5] pN))), .val (.int (Int32.ofNat (pN + (own_cnt [c0, c1, c2, c3, c4, c5] pN)))), .val (.int (own_ln [c0, c1, c2, c3, c4, c5] pN (1 : Int32))), .unset, .unset, .unset, .unset] [(.ref b24)])) (fun t k => ?_) ?_
  · show Steps p.tables e below (T29.setTop (mkF m 208 #[.val (.long q0), .second, .val (.long q1), .second, .val (.int p2), .val (.ref b1), .val (.int (Int32.ofNat pN)), .val (.int (Int32.ofNat (own_cnt [c0, c1, c2, c3, c4, c5] pN))), .val (.ref b24), .val (.int (Int32.ofNat (own_cnt [c0, c1, c2, c3, c4, c5] pN))), .val (.int (Int32.ofNat (pN + (own_cnt [c0, c1, c2, c3, c4, c5] pN)))), .unset, .unset, .unset, .unset, .unset] [(.int (own_ln [c0, c1, c2, c3, c4, c5] pN (1 : Int32)))])) t
    refine XS.istore X29.here hx rfl (hb hby at_208) rfl (l' := #[.val (.long q0), .second, .val (.long q1), .second, .val (.int p2), .val (.ref b1), .val (.int (Int32.ofNat pN)), .val (.int (Int32.ofNat (own_cnt [c0, c1, c2, c3, c4, c5] pN))), .val (.ref b24), .val (.int (Int32.ofNat (own_cnt [c0, c1, c2, c3, c4, c5] pN))), .val (.int (Int32.ofNat (pN + (own_cnt [c0, c1, c2, c3, c4, c5] pN)))), .val (.int (own_ln [c0, c1, c2, c3, c4, c5] pN (1 : Int32))), .unset, .unset, .unset, .unset]) rfl ?_
    show Steps p.tables e below (T29.setTop (mkF m 210 #[.val (.long q0), .second, .val (.long q1), .second, .val (.int p2), .val (.ref b1), .val (.int (Int32.ofNat pN)), .val (.int (Int32.ofNat (own_cnt [c0, c1, c2, c3, c4, c5] pN))), .val (.ref b24), .val (.int (Int32.ofNat (own_cnt [c0, c1, c2, c3, c4, c5] pN))), .val (.int (Int32.ofNat (pN + (own_cnt [c0, c1, c2, c3, c4, c5] pN)))), .val (.int (own_ln [c0, c1, c2, c3, c4, c5] pN (1 : Int32))), .unset, .unset, .unset, .unset] [])) _
    refine XS.aload X29.here hx rfl (hb hby at_210) rfl rfl ?_
    show Steps p.tables e below (T29.setTop (mkF m 212 #[.val (.long q0), .second, .val (.long q1), .second, .val (.int p2), .val (.ref b1), .val (.int (Int32.ofNat pN)), .val (.int (Int32.ofNat (own_cnt [c0, c1, c2, c3, c4, c5] pN))), .val (.ref b24), .val (.int (Int32.ofNat (own_cnt [c0, c1, c2, c3, c4, c5] pN))), .val (.int (Int32.ofNat (pN + (own_cnt [c0, c1, c2, c3, c4, c5] pN)))), .val (.int (own_ln [c0, c1, c2, c3, c4, c5] pN (1 : Int32))), .unset, .unset, .unset, .unset] [(.ref b24)])) _
    exact k
  obtain ⟨_, T30, L30, X30, N30, ⟨rfl, e30⟩, st30⟩ := own_callV X29 hx hZ hown (hw _ (List.mem_of_getElem? (i := 71) rfl)) (hw _ (List.mem_of_getElem? (i := 72) rfl)) (hw _ (List.mem_of_getElem? (i := 74) rfl)) (hw _ (List.mem_of_getElem? (i := 73) rfl)) (hw _ (List.mem_of_getElem? (i := 9) rfl)) (hw _ (List.mem_of_getElem? (i := 75) rfl)) (by decide) (a := b24) (argsL := []) (rest := []) (rm9 l Z a0 hw b24 (Int32.ofNat (pN + (own_cnt [c0, c1, c2, c3, c4, c5] pN))) (own_col [c0, c1, c2, c3, c4, c5] pN ((1 : Int32) + (Int32.ofNat pN))) (own_ln [c0, c1, c2, c3, c4, c5] pN (1 : Int32)) b1 (6 : Int32) T27.heap n0 ⟨Q27e, Q27p, Q27c, Q27l, Q27b, Q27h⟩) (W := 0) (by decide) (by decide) Q27e (g := (mkF m 212 #[.val (.long q0), .second, .val (.long q1), .second, .val (.int p2), .val (.ref b1), .val (.int (Int32.ofNat pN)), .val (.int (Int32.ofNat (own_cnt [c0, c1, c2, c3, c4, c5] pN))), .val (.ref b24), .val (.int (Int32.ofNat (own_cnt [c0, c1, c2, c3, c4, c5] pN))), .val (.int (Int32.ofNat (pN + (own_cnt [c0, c1, c2, c3, c4, c5] pN)))), .val (.int (own_ln [c0, c1, c2, c3, c4, c5] pN (1 : Int32))), .unset, .unset, .unset, .unset] [(.ref b24)])) rfl (by rw [hml]; rfl) pd_6 rfl rfl (by show 2 * 0 + _ ≤ _; exact Nat.le_of_eq rfl) (hb hby at_212) e29 (by decide) (by decide) N29
  refine own_go (T' := T30) (g' := (mkF m 215 #[.val (.long q0), .second, .val (.long q1), .second, .val (.int p2), .val (.ref b1), .val (.int (Int32.ofNat pN)), .val (.int (Int32.ofNat (own_cnt [c0, c1, c2, c3, c4, c5] pN))), .val (.ref b24), .val (.int (Int32.ofNat (own_cnt [c0, c1, c2, c3, c4, c5] pN))), .val (.int (Int32.ofNat (pN + (own_cnt [c0, c1, c2, c3, c4, c5] pN)))), .val (.int (own_ln [c0, c1, c2, c3, c4, c5] pN (1 : Int32))), .unset, .unset, .unset, .unset] [(.int (own_col [c0, c1, c2, c3, c4, c5] pN ((1 : Int32) + (Int32.ofNat pN))))])) st30 ?_
  refine own_go (T' := T30) (g' := (mkF m 219 #[.val (.long q0), .second, .val (.long q1), .second, .val (.int p2), .val (.ref b1), .val (.int (Int32.ofNat pN)), .val (.int (Int32.ofNat (own_cnt [c0, c1, c2, c3, c4, c5] pN))), .val (.ref b24), .val (.int (Int32.ofNat (own_cnt [c0, c1, c2, c3, c4, c5] pN))), .val (.int (Int32.ofNat (pN + (own_cnt [c0, c1, c2, c3, c4, c5] pN)))), .val (.int (own_ln [c0, c1, c2, c3, c4, c5] pN (1 : Int32))), .val (.int (own_col [c0, c1, c2, c3, c4, c5] pN ((1 : Int32) + (Int32.ofNat pN)))), .unset, .unset, .unset] [(.ref b24)])) (fun t k => ?_) ?_
  · show Steps p.tables e below (T30.setTop (mkF m 215 #[.val (.long q0), .second, .val (.long q1), .second, .val (.int p2), .val (.ref b1), .val (.int (Int32.ofNat pN)), .val (.int (Int32.ofNat (own_cnt [c0, c1, c2, c3, c4, c5] pN))), .val (.ref b24), .val (.int (Int32.ofNat (own_cnt [c0, c1, c2, c3, c4, c5] pN))), .val (.int (Int32.ofNat (pN + (own_cnt [c0, c1, c2, c3, c4, c5] pN)))), .val (.int (own_ln [c0, c1, c2, c3, c4, c5] pN (1 : Int32))), .unset, .unset, .unset, .unset] [(.int (own_col [c0, c1, c2, c3, c4, c5] pN ((1 : Int32) + (Int32.ofNat pN))))])) t
    refine XS.istore X30.here hx rfl (hb hby at_215) rfl (l' := #[.val (.long q0), .second, .val (.long q1), .second, .val (.int p2), .val (.ref b1), .val (.int (Int32.ofNat pN)), .val (.int (Int32.ofNat (own_cnt [c0, c1, c2, c3, c4, c5] pN))), .val (.ref b24), .val (.int (Int32.ofNat (own_cnt [c0, c1, c2, c3, c4, c5] pN))), .val (.int (Int32.ofNat (pN + (own_cnt [c0, c1, c2, c3, c4, c5] pN)))), .val (.int (own_ln [c0, c1, c2, c3, c4, c5] pN (1 : Int32))), .val (.int (own_col [c0, c1, c2, c3, c4, c5] pN ((1 : Int32) + (Int32.ofNat pN)))), .unset, .unset, .unset]) rfl ?_
    show Steps p.tables e below (T30.setTop (mkF m 217 #[.val (.long q0), .second, .val (.long q1), .second, .val (.int p2), .val (.ref b1), .val (.int (Int32.ofNat pN)), .val (.int (Int32.ofNat (own_cnt [c0, c1, c2, c3, c4, c5] pN))), .val (.ref b24), .val (.int (Int32.ofNat (own_cnt [c0, c1, c2, c3, c4, c5] pN))), .val (.int (Int32.ofNat (pN + (own_cnt [c0, c1, c2, c3, c4, c5] pN)))), .val (.int (own_ln [c0, c1, c2, c3, c4, c5] pN (1 : Int32))), .val (.int (own_col [c0, c1, c2, c3, c4, c5] pN ((1 : Int32) + (Int32.ofNat pN)))), .unset, .unset, .unset] [])) _
    refine XS.aload X30.here hx rfl (hb hby at_217) rfl rfl ?_
    show Steps p.tables e below (T30.setTop (mkF m 219 #[.val (.long q0), .second, .val (.long q1), .second, .val (.int p2), .val (.ref b1), .val (.int (Int32.ofNat pN)), .val (.int (Int32.ofNat (own_cnt [c0, c1, c2, c3, c4, c5] pN))), .val (.ref b24), .val (.int (Int32.ofNat (own_cnt [c0, c1, c2, c3, c4, c5] pN))), .val (.int (Int32.ofNat (pN + (own_cnt [c0, c1, c2, c3, c4, c5] pN)))), .val (.int (own_ln [c0, c1, c2, c3, c4, c5] pN (1 : Int32))), .val (.int (own_col [c0, c1, c2, c3, c4, c5] pN ((1 : Int32) + (Int32.ofNat pN)))), .unset, .unset, .unset] [(.ref b24)])) _
    exact k
  obtain ⟨_, T31, L31, X31, N31, ⟨rfl, Q31k, ⟨Q31e, Q31p, Q31c, Q31l, Q31b, Q31h⟩⟩, st31⟩ := own_callV X30 hx hZ hown (hw _ (List.mem_of_getElem? (i := 56) rfl)) (hw _ (List.mem_of_getElem? (i := 57) rfl)) (hw _ (List.mem_of_getElem? (i := 59) rfl)) (hw _ (List.mem_of_getElem? (i := 58) rfl)) (hw _ (List.mem_of_getElem? (i := 9) rfl)) (hw _ (List.mem_of_getElem? (i := 60) rfl)) (by decide) (a := b24) (argsL := []) (rest := []) (rm6 l Z a0 hw b24 (Int32.ofNat (pN + (own_cnt [c0, c1, c2, c3, c4, c5] pN))) (own_col [c0, c1, c2, c3, c4, c5] pN ((1 : Int32) + (Int32.ofNat pN))) (own_ln [c0, c1, c2, c3, c4, c5] pN (1 : Int32)) b1 (6 : Int32) k1 (6 : Int32) [c0, c1, c2, c3, c4, c5] (pN + (own_cnt [c0, c1, c2, c3, c4, c5] pN)) T27.heap n0 sz_27 ga_b24 ⟨Q27e, Q27p, Q27c, Q27l, Q27b, Q27h⟩ V_b1_27 lt_b1_b24 rfl rfl rfl (own_posb hp6)) (W := 0) (by decide) (by decide) Q27e (g := (mkF m 219 #[.val (.long q0), .second, .val (.long q1), .second, .val (.int p2), .val (.ref b1), .val (.int (Int32.ofNat pN)), .val (.int (Int32.ofNat (own_cnt [c0, c1, c2, c3, c4, c5] pN))), .val (.ref b24), .val (.int (Int32.ofNat (own_cnt [c0, c1, c2, c3, c4, c5] pN))), .val (.int (Int32.ofNat (pN + (own_cnt [c0, c1, c2, c3, c4, c5] pN)))), .val (.int (own_ln [c0, c1, c2, c3, c4, c5] pN (1 : Int32))), .val (.int (own_col [c0, c1, c2, c3, c4, c5] pN ((1 : Int32) + (Int32.ofNat pN)))), .unset, .unset, .unset] [(.ref b24)])) rfl (by rw [hml]; rfl) pd_6 rfl rfl (by show 2 * 0 + _ ≤ _; exact Nat.le_of_eq rfl) (hb hby at_219) e30 (by decide) (by decide) N30
  have V_b1_31 := V_b1_27.keep Q31k (ninS (Nat.ne_of_lt lt_b1_b24) nin0)
  have E_b24_31 := Exa.keep Q27e Q31k
  have sz_31 := Nat.le_trans sz_27 Q31k.1
  refine own_go (T' := T31) (g' := (mkF m 222 #[.val (.long q0), .second, .val (.long q1), .second, .val (.int p2), .val (.ref b1), .val (.int (Int32.ofNat pN)), .val (.int (Int32.ofNat (own_cnt [c0, c1, c2, c3, c4, c5] pN))), .val (.ref b24), .val (.int (Int32.ofNat (own_cnt [c0, c1, c2, c3, c4, c5] pN))), .val (.int (Int32.ofNat (pN + (own_cnt [c0, c1, c2, c3, c4, c5] pN)))), .val (.int (own_ln [c0, c1, c2, c3, c4, c5] pN (1 : Int32))), .val (.int (own_col [c0, c1, c2, c3, c4, c5] pN ((1 : Int32) + (Int32.ofNat pN)))), .unset, .unset, .unset] [(.int (Int32.ofNat (own_cnt [c0, c1, c2, c3, c4, c5] (pN + (own_cnt [c0, c1, c2, c3, c4, c5] pN)))))])) st31 ?_
  refine own_go (T' := T31) (g' := (mkF m 226 #[.val (.long q0), .second, .val (.long q1), .second, .val (.int p2), .val (.ref b1), .val (.int (Int32.ofNat pN)), .val (.int (Int32.ofNat (own_cnt [c0, c1, c2, c3, c4, c5] pN))), .val (.ref b24), .val (.int (Int32.ofNat (own_cnt [c0, c1, c2, c3, c4, c5] pN))), .val (.int (Int32.ofNat (pN + (own_cnt [c0, c1, c2, c3, c4, c5] pN)))), .val (.int (own_ln [c0, c1, c2, c3, c4, c5] pN (1 : Int32))), .val (.int (own_col [c0, c1, c2, c3, c4, c5] pN ((1 : Int32) + (Int32.ofNat pN)))), .val (.int (Int32.ofNat (own_cnt [c0, c1, c2, c3, c4, c5] (pN + (own_cnt [c0, c1, c2, c3, c4, c5] pN))))), .unset, .unset] [(.ref b24)])) (fun t k => ?_) ?_
  · show Steps p.tables e below (T31.setTop (mkF m 222 #[.val (.long q0), .second, .val (.long q1), .second, .val (.int p2), .val (.ref b1), .val (.int (Int32.ofNat pN)), .val (.int (Int32.ofNat (own_cnt [c0, c1, c2, c3, c4, c5] pN))), .val (.ref b24), .val (.int (Int32.ofNat (own_cnt [c0, c1, c2, c3, c4, c5] pN))), .val (.int (Int32.ofNat (pN + (own_cnt [c0, c1, c2, c3, c4, c5] pN)))), .val (.int (own_ln [c0, c1, c2, c3, c4, c5] pN (1 : Int32))), .val (.int (own_col [c0, c1, c2, c3, c4, c5] pN ((1 : Int32) + (Int32.ofNat pN)))), .unset, .unset, .unset] [(.int (Int32.ofNat (own_cnt [c0, c1, c2, c3, c4, c5] (pN + (own_cnt [c0, c1, c2, c3, c4, c5] pN)))))])) t
    refine XS.istore X31.here hx rfl (hb hby at_222) rfl (l' := #[.val (.long q0), .second, .val (.long q1), .second, .val (.int p2), .val (.ref b1), .val (.int (Int32.ofNat pN)), .val (.int (Int32.ofNat (own_cnt [c0, c1, c2, c3, c4, c5] pN))), .val (.ref b24), .val (.int (Int32.ofNat (own_cnt [c0, c1, c2, c3, c4, c5] pN))), .val (.int (Int32.ofNat (pN + (own_cnt [c0, c1, c2, c3, c4, c5] pN)))), .val (.int (own_ln [c0, c1, c2, c3, c4, c5] pN (1 : Int32))), .val (.int (own_col [c0, c1, c2, c3, c4, c5] pN ((1 : Int32) + (Int32.ofNat pN)))), .val (.int (Int32.ofNat (own_cnt [c0, c1, c2, c3, c4, c5] (pN + (own_cnt [c0, c1, c2, c3, c4, c5] pN))))), .unset, .unset]) rfl ?_
    show Steps p.tables e below (T31.setTop (mkF m 224 #[.val (.long q0), .second, .val (.long q1), .second, .val (.int p2), .val (.ref b1), .val (.int (Int32.ofNat pN)), .val (.int (Int32.ofNat (own_cnt [c0, c1, c2, c3, c4, c5] pN))), .val (.ref b24), .val (.int (Int32.ofNat (own_cnt [c0, c1, c2, c3, c4, c5] pN))), .val (.int (Int32.ofNat (pN + (own_cnt [c0, c1, c2, c3, c4, c5] pN)))), .val (.int (own_ln [c0, c1, c2, c3, c4, c5] pN (1 : Int32))), .val (.int (own_col [c0, c1, c2, c3, c4, c5] pN ((1 : Int32) + (Int32.ofNat pN)))), .val (.int (Int32.ofNat (own_cnt [c0, c1, c2, c3, c4, c5] (pN + (own_cnt [c0, c1, c2, c3, c4, c5] pN))))), .unset, .unset] [])) _
    refine XS.aload X31.here hx rfl (hb hby at_224) rfl rfl ?_
    show Steps p.tables e below (T31.setTop (mkF m 226 #[.val (.long q0), .second, .val (.long q1), .second, .val (.int p2), .val (.ref b1), .val (.int (Int32.ofNat pN)), .val (.int (Int32.ofNat (own_cnt [c0, c1, c2, c3, c4, c5] pN))), .val (.ref b24), .val (.int (Int32.ofNat (own_cnt [c0, c1, c2, c3, c4, c5] pN))), .val (.int (Int32.ofNat (pN + (own_cnt [c0, c1, c2, c3, c4, c5] pN)))), .val (.int (own_ln [c0, c1, c2, c3, c4, c5] pN (1 : Int32))), .val (.int (own_col [c0, c1, c2, c3, c4, c5] pN ((1 : Int32) + (Int32.ofNat pN)))), .val (.int (Int32.ofNat (own_cnt [c0, c1, c2, c3, c4, c5] (pN + (own_cnt [c0, c1, c2, c3, c4, c5] pN))))), .unset, .unset] [(.ref b24)])) _
    exact k
  obtain ⟨_, T32, L32, X32, N32, ⟨rfl, e32⟩, st32⟩ := own_callV X31 hx hZ hown (hw _ (List.mem_of_getElem? (i := 61) rfl)) (hw _ (List.mem_of_getElem? (i := 62) rfl)) (hw _ (List.mem_of_getElem? (i := 64) rfl)) (hw _ (List.mem_of_getElem? (i := 63) rfl)) (hw _ (List.mem_of_getElem? (i := 9) rfl)) (hw _ (List.mem_of_getElem? (i := 65) rfl)) (by decide) (a := b24) (argsL := []) (rest := []) (rm7 l Z a0 hw b24 (Int32.ofNat ((pN + (own_cnt [c0, c1, c2, c3, c4, c5] pN)) + (own_cnt [c0, c1, c2, c3, c4, c5] (pN + (own_cnt [c0, c1, c2, c3, c4, c5] pN))))) (own_col [c0, c1, c2, c3, c4, c5] (pN + (own_cnt [c0, c1, c2, c3, c4, c5] pN)) (own_col [c0, c1, c2, c3, c4, c5] pN ((1 : Int32) + (Int32.ofNat pN)))) (own_ln [c0, c1, c2, c3, c4, c5] (pN + (own_cnt [c0, c1, c2, c3, c4, c5] pN)) (own_ln [c0, c1, c2, c3, c4, c5] pN (1 : Int32))) b1 (6 : Int32) T31.heap n0 ⟨Q31e, Q31p, Q31c, Q31l, Q31b, Q31h⟩) (W := 0) (by decide) (by decide) Q31e (g := (mkF m 226 #[.val (.long q0), .second, .val (.long q1), .second, .val (.int p2), .val (.ref b1), .val (.int (Int32.ofNat pN)), .val (.int (Int32.ofNat (own_cnt [c0, c1, c2, c3, c4, c5] pN))), .val (.ref b24), .val (.int (Int32.ofNat (own_cnt [c0, c1, c2, c3, c4, c5] pN))), .val (.int (Int32.ofNat (pN + (own_cnt [c0, c1, c2, c3, c4, c5] pN)))), .val (.int (own_ln [c0, c1, c2, c3, c4, c5] pN (1 : Int32))), .val (.int (own_col [c0, c1, c2, c3, c4, c5] pN ((1 : Int32) + (Int32.ofNat pN)))), .val (.int (Int32.ofNat (own_cnt [c0, c1, c2, c3, c4, c5] (pN + (own_cnt [c0, c1, c2, c3, c4, c5] pN))))), .unset, .unset] [(.ref b24)])) rfl (by rw [hml]; rfl) pd_6 rfl rfl (by show 2 * 0 + _ ≤ _; exact Nat.le_of_eq rfl) (hb hby at_226) rfl (by decide) (by decide) N31
  refine own_go (T' := T32) (g' := (mkF m 229 #[.val (.long q0), .second, .val (.long q1), .second, .val (.int p2), .val (.ref b1), .val (.int (Int32.ofNat pN)), .val (.int (Int32.ofNat (own_cnt [c0, c1, c2, c3, c4, c5] pN))), .val (.ref b24), .val (.int (Int32.ofNat (own_cnt [c0, c1, c2, c3, c4, c5] pN))), .val (.int (Int32.ofNat (pN + (own_cnt [c0, c1, c2, c3, c4, c5] pN)))), .val (.int (own_ln [c0, c1, c2, c3, c4, c5] pN (1 : Int32))), .val (.int (own_col [c0, c1, c2, c3, c4, c5] pN ((1 : Int32) + (Int32.ofNat pN)))), .val (.int (Int32.ofNat (own_cnt [c0, c1, c2, c3, c4, c5] (pN + (own_cnt [c0, c1, c2, c3, c4, c5] pN))))), .unset, .unset] [(.int (Int32.ofNat ((pN + (own_cnt [c0, c1, c2, c3, c4, c5] pN)) + (own_cnt [c0, c1, c2, c3, c4, c5] (pN + (own_cnt [c0, c1, c2, c3, c4, c5] pN))))))])) st32 ?_
  refine own_go (T' := T32) (g' := (mkF m 233 #[.val (.long q0), .second, .val (.long q1), .second, .val (.int p2), .val (.ref b1), .val (.int (Int32.ofNat pN)), .val (.int (Int32.ofNat (own_cnt [c0, c1, c2, c3, c4, c5] pN))), .val (.ref b24), .val (.int (Int32.ofNat (own_cnt [c0, c1, c2, c3, c4, c5] pN))), .val (.int (Int32.ofNat (pN + (own_cnt [c0, c1, c2, c3, c4, c5] pN)))), .val (.int (own_ln [c0, c1, c2, c3, c4, c5] pN (1 : Int32))), .val (.int (own_col [c0, c1, c2, c3, c4, c5] pN ((1 : Int32) + (Int32.ofNat pN)))), .val (.int (Int32.ofNat (own_cnt [c0, c1, c2, c3, c4, c5] (pN + (own_cnt [c0, c1, c2, c3, c4, c5] pN))))), .val (.int (Int32.ofNat ((pN + (own_cnt [c0, c1, c2, c3, c4, c5] pN)) + (own_cnt [c0, c1, c2, c3, c4, c5] (pN + (own_cnt [c0, c1, c2, c3, c4, c5] pN)))))), .unset] [(.int (Int32.ofNat (own_cnt [c0, c1, c2, c3, c4, c5] pN)))])) (fun t k => ?_) ?_
  · show Steps p.tables e below (T32.setTop (mkF m 229 #[.val (.long q0), .second, .val (.long q1), .second, .val (.int p2), .val (.ref b1), .val (.int (Int32.ofNat pN)), .val (.int (Int32.ofNat (own_cnt [c0, c1, c2, c3, c4, c5] pN))), .val (.ref b24), .val (.int (Int32.ofNat (own_cnt [c0, c1, c2, c3, c4, c5] pN))), .val (.int (Int32.ofNat (pN + (own_cnt [c0, c1, c2, c3, c4, c5] pN)))), .val (.int (own_ln [c0, c1, c2, c3, c4, c5] pN (1 : Int32))), .val (.int (own_col [c0, c1, c2, c3, c4, c5] pN ((1 : Int32) + (Int32.ofNat pN)))), .val (.int (Int32.ofNat (own_cnt [c0, c1, c2, c3, c4, c5] (pN + (own_cnt [c0, c1, c2, c3, c4, c5] pN))))), .unset, .unset] [(.int (Int32.ofNat ((pN + (own_cnt [c0, c1, c2, c3, c4, c5] pN)) + (own_cnt [c0, c1, c2, c3, c4, c5] (pN + (own_cnt [c0, c1, c2, c3, c4, c5] pN))))))])) t
    refine XS.istore X32.here hx rfl (hb hby at_229) rfl (l' := #[.val (.long q0), .second, .val (.long q1), .second, .val (.int p2), .val (.ref b1), .val (.int (Int32.ofNat pN)), .val (.int (Int32.ofNat (own_cnt [c0, c1, c2, c3, c4, c5] pN))), .val (.ref b24), .val (.int (Int32.ofNat (own_cnt [c0, c1, c2, c3, c4, c5] pN))), .val (.int (Int32.ofNat (pN + (own_cnt [c0, c1, c2, c3, c4, c5] pN)))), .val (.int (own_ln [c0, c1, c2, c3, c4, c5] pN (1 : Int32))), .val (.int (own_col [c0, c1, c2, c3, c4, c5] pN ((1 : Int32) + (Int32.ofNat pN)))), .val (.int (Int32.ofNat (own_cnt [c0, c1, c2, c3, c4, c5] (pN + (own_cnt [c0, c1, c2, c3, c4, c5] pN))))), .val (.int (Int32.ofNat ((pN + (own_cnt [c0, c1, c2, c3, c4, c5] pN)) + (own_cnt [c0, c1, c2, c3, c4, c5] (pN + (own_cnt [c0, c1, c2, c3, c4, c5] pN)))))), .unset]) rfl ?_
    show Steps p.tables e below (T32.setTop (mkF m 231 #[.val (.long q0), .second, .val (.long q1), .second, .val (.int p2), .val (.ref b1), .val (.int (Int32.ofNat pN)), .val (.int (Int32.ofNat (own_cnt [c0, c1, c2, c3, c4, c5] pN))), .val (.ref b24), .val (.int (Int32.ofNat (own_cnt [c0, c1, c2, c3, c4, c5] pN))), .val (.int (Int32.ofNat (pN + (own_cnt [c0, c1, c2, c3, c4, c5] pN)))), .val (.int (own_ln [c0, c1, c2, c3, c4, c5] pN (1 : Int32))), .val (.int (own_col [c0, c1, c2, c3, c4, c5] pN ((1 : Int32) + (Int32.ofNat pN)))), .val (.int (Int32.ofNat (own_cnt [c0, c1, c2, c3, c4, c5] (pN + (own_cnt [c0, c1, c2, c3, c4, c5] pN))))), .val (.int (Int32.ofNat ((pN + (own_cnt [c0, c1, c2, c3, c4, c5] pN)) + (own_cnt [c0, c1, c2, c3, c4, c5] (pN + (own_cnt [c0, c1, c2, c3, c4, c5] pN)))))), .unset] [])) _
    refine XS.iload X32.here hx rfl (hb hby at_231) rfl ?_
    show Steps p.tables e below (T32.setTop (mkF m 233 #[.val (.long q0), .second, .val (.long q1), .second, .val (.int p2), .val (.ref b1), .val (.int (Int32.ofNat pN)), .val (.int (Int32.ofNat (own_cnt [c0, c1, c2, c3, c4, c5] pN))), .val (.ref b24), .val (.int (Int32.ofNat (own_cnt [c0, c1, c2, c3, c4, c5] pN))), .val (.int (Int32.ofNat (pN + (own_cnt [c0, c1, c2, c3, c4, c5] pN)))), .val (.int (own_ln [c0, c1, c2, c3, c4, c5] pN (1 : Int32))), .val (.int (own_col [c0, c1, c2, c3, c4, c5] pN ((1 : Int32) + (Int32.ofNat pN)))), .val (.int (Int32.ofNat (own_cnt [c0, c1, c2, c3, c4, c5] (pN + (own_cnt [c0, c1, c2, c3, c4, c5] pN))))), .val (.int (Int32.ofNat ((pN + (own_cnt [c0, c1, c2, c3, c4, c5] pN)) + (own_cnt [c0, c1, c2, c3, c4, c5] (pN + (own_cnt [c0, c1, c2, c3, c4, c5] pN)))))), .unset] [(.int (Int32.ofNat (own_cnt [c0, c1, c2, c3, c4, c5] pN)))])) _
    exact k
  have hag := own_again (cs := [c0, c1, c2, c3, c4, c5]) hp6
  by_cases hcz : (own_cnt [c0, c1, c2, c3, c4, c5] pN) = 0
  · refine own_go (T' := T32) (g' := (mkF m 247 #[.val (.long q0), .second, .val (.long q1), .second, .val (.int p2), .val (.ref b1), .val (.int (Int32.ofNat pN)), .val (.int (Int32.ofNat (own_cnt [c0, c1, c2, c3, c4, c5] pN))), .val (.ref b24), .val (.int (Int32.ofNat (own_cnt [c0, c1, c2, c3, c4, c5] pN))), .val (.int (Int32.ofNat (pN + (own_cnt [c0, c1, c2, c3, c4, c5] pN)))), .val (.int (own_ln [c0, c1, c2, c3, c4, c5] pN (1 : Int32))), .val (.int (own_col [c0, c1, c2, c3, c4, c5] pN ((1 : Int32) + (Int32.ofNat pN)))), .val (.int (Int32.ofNat (own_cnt [c0, c1, c2, c3, c4, c5] (pN + (own_cnt [c0, c1, c2, c3, c4, c5] pN))))), .val (.int (Int32.ofNat ((pN + (own_cnt [c0, c1, c2, c3, c4, c5] pN)) + (own_cnt [c0, c1, c2, c3, c4, c5] (pN + (own_cnt [c0, c1, c2, c3, c4, c5] pN)))))), .val (.int (0 : Int32))] [(.int (Int32.ofNat (own_cnt [c0, c1, c2, c3, c4, c5] pN))), (.int (Int32.ofNat (own_cnt [c0, c1, c2, c3, c4, c5] pN)))])) (fun t k => ?_) ?_
    · show Steps p.tables e below (T32.setTop (mkF m 233 #[.val (.long q0), .second, .val (.long q1), .second, .val (.int p2), .val (.ref b1), .val (.int (Int32.ofNat pN)), .val (.int (Int32.ofNat (own_cnt [c0, c1, c2, c3, c4, c5] pN))), .val (.ref b24), .val (.int (Int32.ofNat (own_cnt [c0, c1, c2, c3, c4, c5] pN))), .val (.int (Int32.ofNat (pN + (own_cnt [c0, c1, c2, c3, c4, c5] pN)))), .val (.int (own_ln [c0, c1, c2, c3, c4, c5] pN (1 : Int32))), .val (.int (own_col [c0, c1, c2, c3, c4, c5] pN ((1 : Int32) + (Int32.ofNat pN)))), .val (.int (Int32.ofNat (own_cnt [c0, c1, c2, c3, c4, c5] (pN + (own_cnt [c0, c1, c2, c3, c4, c5] pN))))), .val (.int (Int32.ofNat ((pN + (own_cnt [c0, c1, c2, c3, c4, c5] pN)) + (own_cnt [c0, c1, c2, c3, c4, c5] (pN + (own_cnt [c0, c1, c2, c3, c4, c5] pN)))))), .unset] [(.int (Int32.ofNat (own_cnt [c0, c1, c2, c3, c4, c5] pN)))])) t
      refine XS.ifYes X32.here hx rfl (pc0 := 233) (pc' := 240) rfl (hb hby at_233) rfl ((if0 _ _).trans (flt (by rw [hcz]; decide)).2.2.2) (by decide) (by decide) ?_
      show Steps p.tables e below (T32.setTop (mkF m 240 #[.val (.long q0), .second, .val (.long q1), .second, .val (.int p2), .val (.ref b1), .val (.int (Int32.ofNat pN)), .val (.int (Int32.ofNat (own_cnt [c0, c1, c2, c3, c4, c5] pN))), .val (.ref b24), .val (.int (Int32.ofNat (own_cnt [c0, c1, c2, c3, c4, c5] pN))), .val (.int (Int32.ofNat (pN + (own_cnt [c0, c1, c2, c3, c4, c5] pN)))), .val (.int (own_ln [c0, c1, c2, c3, c4, c5] pN (1 : Int32))), .val (.int (own_col [c0, c1, c2, c3, c4, c5] pN ((1 : Int32) + (Int32.ofNat pN)))), .val (.int (Int32.ofNat (own_cnt [c0, c1, c2, c3, c4, c5] (pN + (own_cnt [c0, c1, c2, c3, c4, c5] pN))))), .val (.int (Int32.ofNat ((pN + (own_cnt [c0, c1, c2, c3, c4, c5] pN)) + (own_cnt [c0, c1, c2, c3, c4, c5] (pN + (own_cnt [c0, c1, c2, c3, c4, c5] pN)))))), .unset] [])) _
      refine XS.iconst X32.here hx rfl (hb hby at_240) ?_
      show Steps p.tables e below (T32.setTop (mkF m 241 #[.val (.long q0), .second, .val (.long q1), .second, .val (.int p2), .val (.ref b1), .val (.int (Int32.ofNat pN)), .val (.int (Int32.ofNat (own_cnt [c0, c1, c2, c3, c4, c5] pN))), .val (.ref b24), .val (.int (Int32.ofNat (own_cnt [c0, c1, c2, c3, c4, c5] pN))), .val (.int (Int32.ofNat (pN + (own_cnt [c0, c1, c2, c3, c4, c5] pN)))), .val (.int (own_ln [c0, c1, c2, c3, c4, c5] pN (1 : Int32))), .val (.int (own_col [c0, c1, c2, c3, c4, c5] pN ((1 : Int32) + (Int32.ofNat pN)))), .val (.int (Int32.ofNat (own_cnt [c0, c1, c2, c3, c4, c5] (pN + (own_cnt [c0, c1, c2, c3, c4, c5] pN))))), .val (.int (Int32.ofNat ((pN + (own_cnt [c0, c1, c2, c3, c4, c5] pN)) + (own_cnt [c0, c1, c2, c3, c4, c5] (pN + (own_cnt [c0, c1, c2, c3, c4, c5] pN)))))), .unset] [(.int (0 : Int32))])) _
      refine XS.istore X32.here hx rfl (hb hby at_241) rfl (l' := #[.val (.long q0), .second, .val (.long q1), .second, .val (.int p2), .val (.ref b1), .val (.int (Int32.ofNat pN)), .val (.int (Int32.ofNat (own_cnt [c0, c1, c2, c3, c4, c5] pN))), .val (.ref b24), .val (.int (Int32.ofNat (own_cnt [c0, c1, c2, c3, c4, c5] pN))), .val (.int (Int32.ofNat (pN + (own_cnt [c0, c1, c2, c3, c4, c5] pN)))), .val (.int (own_ln [c0, c1, c2, c3, c4, c5] pN (1 : Int32))), .val (.int (own_col [c0, c1, c2, c3, c4, c5] pN ((1 : Int32) + (Int32.ofNat pN)))), .val (.int (Int32.ofNat (own_cnt [c0, c1, c2, c3, c4, c5] (pN + (own_cnt [c0, c1, c2, c3, c4, c5] pN))))), .val (.int (Int32.ofNat ((pN + (own_cnt [c0, c1, c2, c3, c4, c5] pN)) + (own_cnt [c0, c1, c2, c3, c4, c5] (pN + (own_cnt [c0, c1, c2, c3, c4, c5] pN)))))), .val (.int (0 : Int32))]) rfl ?_
      show Steps p.tables e below (T32.setTop (mkF m 243 #[.val (.long q0), .second, .val (.long q1), .second, .val (.int p2), .val (.ref b1), .val (.int (Int32.ofNat pN)), .val (.int (Int32.ofNat (own_cnt [c0, c1, c2, c3, c4, c5] pN))), .val (.ref b24), .val (.int (Int32.ofNat (own_cnt [c0, c1, c2, c3, c4, c5] pN))), .val (.int (Int32.ofNat (pN + (own_cnt [c0, c1, c2, c3, c4, c5] pN)))), .val (.int (own_ln [c0, c1, c2, c3, c4, c5] pN (1 : Int32))), .val (.int (own_col [c0, c1, c2, c3, c4, c5] pN ((1 : Int32) + (Int32.ofNat pN)))), .val (.int (Int32.ofNat (own_cnt [c0, c1, c2, c3, c4, c5] (pN + (own_cnt [c0, c1, c2, c3, c4, c5] pN))))), .val (.int (Int32.ofNat ((pN + (own_cnt [c0, c1, c2, c3, c4, c5] pN)) + (own_cnt [c0, c1, c2, c3, c4, c5] (pN + (own_cnt [c0, c1, c2, c3, c4, c5] pN)))))), .val (.int (0 : Int32))] [])) _
      refine XS.iload X32.here hx rfl (hb hby at_243) rfl ?_
      show Steps p.tables e below (T32.setTop (mkF m 245 #[.val (.long q0), .second, .val (.long q1), .second, .val (.int p2), .val (.ref b1), .val (.int (Int32.ofNat pN)), .val (.int (Int32.ofNat (own_cnt [c0, c1, c2, c3, c4, c5] pN))), .val (.ref b24), .val (.int (Int32.ofNat (own_cnt [c0, c1, c2, c3, c4, c5] pN))), .val (.int (Int32.ofNat (pN + (own_cnt [c0, c1, c2, c3, c4, c5] pN)))), .val (.int (own_ln [c0, c1, c2, c3, c4, c5] pN (1 : Int32))), .val (.int (own_col [c0, c1, c2, c3, c4, c5] pN ((1 : Int32) + (Int32.ofNat pN)))), .val (.int (Int32.ofNat (own_cnt [c0, c1, c2, c3, c4, c5] (pN + (own_cnt [c0, c1, c2, c3, c4, c5] pN))))), .val (.int (Int32.ofNat ((pN + (own_cnt [c0, c1, c2, c3, c4, c5] pN)) + (own_cnt [c0, c1, c2, c3, c4, c5] (pN + (own_cnt [c0, c1, c2, c3, c4, c5] pN)))))), .val (.int (0 : Int32))] [(.int (Int32.ofNat (own_cnt [c0, c1, c2, c3, c4, c5] pN)))])) _
      refine XS.iload X32.here hx rfl (hb hby at_245) rfl ?_
      show Steps p.tables e below (T32.setTop (mkF m 247 #[.val (.long q0), .second, .val (.long q1), .second, .val (.int p2), .val (.ref b1), .val (.int (Int32.ofNat pN)), .val (.int (Int32.ofNat (own_cnt [c0, c1, c2, c3, c4, c5] pN))), .val (.ref b24), .val (.int (Int32.ofNat (own_cnt [c0, c1, c2, c3, c4, c5] pN))), .val (.int (Int32.ofNat (pN + (own_cnt [c0, c1, c2, c3, c4, c5] pN)))), .val (.int (own_ln [c0, c1, c2, c3, c4, c5] pN (1 : Int32))), .val (.int (own_col [c0, c1, c2, c3, c4, c5] pN ((1 : Int32) + (Int32.ofNat pN)))), .val (.int (Int32.ofNat (own_cnt [c0, c1, c2, c3, c4, c5] (pN + (own_cnt [c0, c1, c2, c3, c4, c5] pN))))), .val (.int (Int32.ofNat ((pN + (own_cnt [c0, c1, c2, c3, c4, c5] pN)) + (own_cnt [c0, c1, c2, c3, c4, c5] (pN + (own_cnt [c0, c1, c2, c3, c4, c5] pN)))))), .val (.int (0 : Int32))] [(.int (Int32.ofNat (own_cnt [c0, c1, c2, c3, c4, c5] pN))), (.int (Int32.ofNat (own_cnt [c0, c1, c2, c3, c4, c5] pN)))])) _
      exact k
    refine own_go (T' := T32) (g' := (mkF m 267 #[.val (.long q0), .second, .val (.long q1), .second, .val (.int p2), .val (.ref b1), .val (.int (Int32.ofNat pN)), .val (.int (Int32.ofNat (own_cnt [c0, c1, c2, c3, c4, c5] pN))), .val (.ref b24), .val (.int (Int32.ofNat (own_cnt [c0, c1, c2, c3, c4, c5] pN))), .val (.int (Int32.ofNat (pN + (own_cnt [c0, c1, c2, c3, c4, c5] pN)))), .val (.int (own_ln [c0, c1, c2, c3, c4, c5] pN (1 : Int32))), .val (.int (own_col [c0, c1, c2, c3, c4, c5] pN ((1 : Int32) + (Int32.ofNat pN)))), .val (.int (Int32.ofNat (own_cnt [c0, c1, c2, c3, c4, c5] (pN + (own_cnt [c0, c1, c2, c3, c4, c5] pN))))), .val (.int (Int32.ofNat ((pN + (own_cnt [c0, c1, c2, c3, c4, c5] pN)) + (own_cnt [c0, c1, c2, c3, c4, c5] (pN + (own_cnt [c0, c1, c2, c3, c4, c5] pN)))))), .val (.int (0 : Int32))] [(.int (Int32.ofNat pN)), (.int (Int32.ofNat (pN + (own_cnt [c0, c1, c2, c3, c4, c5] pN))))])) (fun t k => ?_) ?_
    · show Steps p.tables e below (T32.setTop (mkF m 247 #[.val (.long q0), .second, .val (.long q1), .second, .val (.int p2), .val (.ref b1), .val (.int (Int32.ofNat pN)), .val (.int (Int32.ofNat (own_cnt [c0, c1, c2, c3, c4, c5] pN))), .val (.ref b24), .val (.int (Int32.ofNat (own_cnt [c0, c1, c2, c3, c4, c5] pN))), .val (.int (Int32.ofNat (pN + (own_cnt [c0, c1, c2, c3, c4, c5] pN)))), .val (.int (own_ln [c0, c1, c2, c3, c4, c5] pN (1 : Int32))), .val (.int (own_col [c0, c1, c2, c3, c4, c5] pN ((1 : Int32) + (Int32.ofNat pN)))), .val (.int (Int32.ofNat (own_cnt [c0, c1, c2, c3, c4, c5] (pN + (own_cnt [c0, c1, c2, c3, c4, c5] pN))))), .val (.int (Int32.ofNat ((pN + (own_cnt [c0, c1, c2, c3, c4, c5] pN)) + (own_cnt [c0, c1, c2, c3, c4, c5] (pN + (own_cnt [c0, c1, c2, c3, c4, c5] pN)))))), .val (.int (0 : Int32))] [(.int (Int32.ofNat (own_cnt [c0, c1, c2, c3, c4, c5] pN))), (.int (Int32.ofNat (own_cnt [c0, c1, c2, c3, c4, c5] pN)))])) t
      refine XS.icmpNo X32.here hx rfl (hb hby at_247) rfl (teq rfl).2 ?_
      show Steps p.tables e below (T32.setTop (mkF m 250 #[.val (.long q0), .second, .val (.long q1), .second, .val (.int p2), .val (.ref b1), .val (.int (Int32.ofNat pN)), .val (.int (Int32.ofNat (own_cnt [c0, c1, c2, c3, c4, c5] pN))), .val (.ref b24), .val (.int (Int32.ofNat (own_cnt [c0, c1, c2, c3, c4, c5] pN))), .val (.int (Int32.ofNat (pN + (own_cnt [c0, c1, c2, c3, c4, c5] pN)))), .val (.int (own_ln [c0, c1, c2, c3, c4, c5] pN (1 : Int32))), .val (.int (own_col [c0, c1, c2, c3, c4, c5] pN ((1 : Int32) + (Int32.ofNat pN)))), .val (.int (Int32.ofNat (own_cnt [c0, c1, c2, c3, c4, c5] (pN + (own_cnt [c0, c1, c2, c3, c4, c5] pN))))), .val (.int (Int32.ofNat ((pN + (own_cnt [c0, c1, c2, c3, c4, c5] pN)) + (own_cnt [c0, c1, c2, c3, c4, c5] (pN + (own_cnt [c0, c1, c2, c3, c4, c5] pN)))))), .val (.int (0 : Int32))] [])) _
      refine XS.iload X32.here hx rfl (hb hby at_250) rfl ?_
      show Steps p.tables e below (T32.setTop (mkF m 252 #[.val (.long q0), .second, .val (.long q1), .second, .val (.int p2), .val (.ref b1), .val (.int (Int32.ofNat pN)), .val (.int (Int32.ofNat (own_cnt [c0, c1, c2, c3, c4, c5] pN))), .val (.ref b24), .val (.int (Int32.ofNat (own_cnt [c0, c1, c2, c3, c4, c5] pN))), .val (.int (Int32.ofNat (pN + (own_cnt [c0, c1, c2, c3, c4, c5] pN)))), .val (.int (own_ln [c0, c1, c2, c3, c4, c5] pN (1 : Int32))), .val (.int (own_col [c0, c1, c2, c3, c4, c5] pN ((1 : Int32) + (Int32.ofNat pN)))), .val (.int (Int32.ofNat (own_cnt [c0, c1, c2, c3, c4, c5] (pN + (own_cnt [c0, c1, c2, c3, c4, c5] pN))))), .val (.int (Int32.ofNat ((pN + (own_cnt [c0, c1, c2, c3, c4, c5] pN)) + (own_cnt [c0, c1, c2, c3, c4, c5] (pN + (own_cnt [c0, c1, c2, c3, c4, c5] pN)))))), .val (.int (0 : Int32))] [(.int (Int32.ofNat (pN + (own_cnt [c0, c1, c2, c3, c4, c5] pN))))])) _
      refine XS.iload X32.here hx rfl (hb hby at_252) rfl ?_
      show Steps p.tables e below (T32.setTop (mkF m 254 #[.val (.long q0), .second, .val (.long q1), .second, .val (.int p2), .val (.ref b1), .val (.int (Int32.ofNat pN)), .val (.int (Int32.ofNat (own_cnt [c0, c1, c2, c3, c4, c5] pN))), .val (.ref b24), .val (.int (Int32.ofNat (own_cnt [c0, c1, c2, c3, c4, c5] pN))), .val (.int (Int32.ofNat (pN + (own_cnt [c0, c1, c2, c3, c4, c5] pN)))), .val (.int (own_ln [c0, c1, c2, c3, c4, c5] pN (1 : Int32))), .val (.int (own_col [c0, c1, c2, c3, c4, c5] pN ((1 : Int32) + (Int32.ofNat pN)))), .val (.int (Int32.ofNat (own_cnt [c0, c1, c2, c3, c4, c5] (pN + (own_cnt [c0, c1, c2, c3, c4, c5] pN))))), .val (.int (Int32.ofNat ((pN + (own_cnt [c0, c1, c2, c3, c4, c5] pN)) + (own_cnt [c0, c1, c2, c3, c4, c5] (pN + (own_cnt [c0, c1, c2, c3, c4, c5] pN)))))), .val (.int (0 : Int32))] [(.int (0 : Int32)), (.int (Int32.ofNat (pN + (own_cnt [c0, c1, c2, c3, c4, c5] pN))))])) _
      refine XS.ifYes X32.here hx rfl (pc0 := 254) (pc' := 265) rfl (hb hby at_254) rfl ((if0 _ _).trans (teq (by decide)).1) (by decide) (by decide) ?_
      show Steps p.tables e below (T32.setTop (mkF m 265 #[.val (.long q0), .second, .val (.long q1), .second, .val (.int p2), .val (.ref b1), .val (.int (Int32.ofNat pN)), .val (.int (Int32.ofNat (own_cnt [c0, c1, c2, c3, c4, c5] pN))), .val (.ref b24), .val (.int (Int32.ofNat (own_cnt [c0, c1, c2, c3, c4, c5] pN))), .val (.int (Int32.ofNat (pN + (own_cnt [c0, c1, c2, c3, c4, c5] pN)))), .val (.int (own_ln [c0, c1, c2, c3, c4, c5] pN (1 : Int32))), .val (.int (own_col [c0, c1, c2, c3, c4, c5] pN ((1 : Int32) + (Int32.ofNat pN)))), .val (.int (Int32.ofNat (own_cnt [c0, c1, c2, c3, c4, c5] (pN + (own_cnt [c0, c1, c2, c3, c4, c5] pN))))), .val (.int (Int32.ofNat ((pN + (own_cnt [c0, c1, c2, c3, c4, c5] pN)) + (own_cnt [c0, c1, c2, c3, c4, c5] (pN + (own_cnt [c0, c1, c2, c3, c4, c5] pN)))))), .val (.int (0 : Int32))] [(.int (Int32.ofNat (pN + (own_cnt [c0, c1, c2, c3, c4, c5] pN))))])) _
      refine XS.iload X32.here hx rfl (hb hby at_265) rfl ?_
      show Steps p.tables e below (T32.setTop (mkF m 267 #[.val (.long q0), .second, .val (.long q1), .second, .val (.int p2), .val (.ref b1), .val (.int (Int32.ofNat pN)), .val (.int (Int32.ofNat (own_cnt [c0, c1, c2, c3, c4, c5] pN))), .val (.ref b24), .val (.int (Int32.ofNat (own_cnt [c0, c1, c2, c3, c4, c5] pN))), .val (.int (Int32.ofNat (pN + (own_cnt [c0, c1, c2, c3, c4, c5] pN)))), .val (.int (own_ln [c0, c1, c2, c3, c4, c5] pN (1 : Int32))), .val (.int (own_col [c0, c1, c2, c3, c4, c5] pN ((1 : Int32) + (Int32.ofNat pN)))), .val (.int (Int32.ofNat (own_cnt [c0, c1, c2, c3, c4, c5] (pN + (own_cnt [c0, c1, c2, c3, c4, c5] pN))))), .val (.int (Int32.ofNat ((pN + (own_cnt [c0, c1, c2, c3, c4, c5] pN)) + (own_cnt [c0, c1, c2, c3, c4, c5] (pN + (own_cnt [c0, c1, c2, c3, c4, c5] pN)))))), .val (.int (0 : Int32))] [(.int (Int32.ofNat pN)), (.int (Int32.ofNat (pN + (own_cnt [c0, c1, c2, c3, c4, c5] pN))))])) _
      exact k
    refine own_go (T' := T32) (g' := (mkF m 282 #[.val (.long q0), .second, .val (.long q1), .second, .val (.int p2), .val (.ref b1), .val (.int (Int32.ofNat pN)), .val (.int (Int32.ofNat (own_cnt [c0, c1, c2, c3, c4, c5] pN))), .val (.ref b24), .val (.int (Int32.ofNat (own_cnt [c0, c1, c2, c3, c4, c5] pN))), .val (.int (Int32.ofNat (pN + (own_cnt [c0, c1, c2, c3, c4, c5] pN)))), .val (.int (own_ln [c0, c1, c2, c3, c4, c5] pN (1 : Int32))), .val (.int (own_col [c0, c1, c2, c3, c4, c5] pN ((1 : Int32) + (Int32.ofNat pN)))), .val (.int (Int32.ofNat (own_cnt [c0, c1, c2, c3, c4, c5] (pN + (own_cnt [c0, c1, c2, c3, c4, c5] pN))))), .val (.int (Int32.ofNat ((pN + (own_cnt [c0, c1, c2, c3, c4, c5] pN)) + (own_cnt [c0, c1, c2, c3, c4, c5] (pN + (own_cnt [c0, c1, c2, c3, c4, c5] pN)))))), .val (.int (0 : Int32))] [(.int (1 : Int32)), (.int (own_ln [c0, c1, c2, c3, c4, c5] pN (1 : Int32)))])) (fun t k => ?_) ?_
    · show Steps p.tables e below (T32.setTop (mkF m 267 #[.val (.long q0), .second, .val (.long q1), .second, .val (.int p2), .val (.ref b1), .val (.int (Int32.ofNat pN)), .val (.int (Int32.ofNat (own_cnt [c0, c1, c2, c3, c4, c5] pN))), .val (.ref b24), .val (.int (Int32.ofNat (own_cnt [c0, c1, c2, c3, c4, c5] pN))), .val (.int (Int32.ofNat (pN + (own_cnt [c0, c1, c2, c3, c4, c5] pN)))), .val (.int (own_ln [c0, c1, c2, c3, c4, c5] pN (1 : Int32))), .val (.int (own_col [c0, c1, c2, c3, c4, c5] pN ((1 : Int32) + (Int32.ofNat pN)))), .val (.int (Int32.ofNat (own_cnt [c0, c1, c2, c3, c4, c5] (pN + (own_cnt [c0, c1, c2, c3, c4, c5] pN))))), .val (.int (Int32.ofNat ((pN + (own_cnt [c0, c1, c2, c3, c4, c5] pN)) + (own_cnt [c0, c1, c2, c3, c4, c5] (pN + (own_cnt [c0, c1, c2, c3, c4, c5] pN)))))), .val (.int (0 : Int32))] [(.int (Int32.ofNat pN)), (.int (Int32.ofNat (pN + (own_cnt [c0, c1, c2, c3, c4, c5] pN))))])) t
      refine XS.icmpNo X32.here hx rfl (hb hby at_267) rfl (teq (by rw [hcz]; rfl)).2 ?_
      show Steps p.tables e below (T32.setTop (mkF m 270 #[.val (.long q0), .second, .val (.long q1), .second, .val (.int p2), .val (.ref b1), .val (.int (Int32.ofNat pN)), .val (.int (Int32.ofNat (own_cnt [c0, c1, c2, c3, c4, c5] pN))), .val (.ref b24), .val (.int (Int32.ofNat (own_cnt [c0, c1, c2, c3, c4, c5] pN))), .val (.int (Int32.ofNat (pN + (own_cnt [c0, c1, c2, c3, c4, c5] pN)))), .val (.int (own_ln [c0, c1, c2, c3, c4, c5] pN (1 : Int32))), .val (.int (own_col [c0, c1, c2, c3, c4, c5] pN ((1 : Int32) + (Int32.ofNat pN)))), .val (.int (Int32.ofNat (own_cnt [c0, c1, c2, c3, c4, c5] (pN + (own_cnt [c0, c1, c2, c3, c4, c5] pN))))), .val (.int (Int32.ofNat ((pN + (own_cnt [c0, c1, c2, c3, c4, c5] pN)) + (own_cnt [c0, c1, c2, c3, c4, c5] (pN + (own_cnt [c0, c1, c2, c3, c4, c5] pN)))))), .val (.int (0 : Int32))] [])) _
      refine XS.iload X32.here hx rfl (hb hby at_270) rfl ?_
      show Steps p.tables e below (T32.setTop (mkF m 272 #[.val (.long q0), .second, .val (.long q1), .second, .val (.int p2), .val (.ref b1), .val (.int (Int32.ofNat pN)), .val (.int (Int32.ofNat (own_cnt [c0, c1, c2, c3, c4, c5] pN))), .val (.ref b24), .val (.int (Int32.ofNat (own_cnt [c0, c1, c2, c3, c4, c5] pN))), .val (.int (Int32.ofNat (pN + (own_cnt [c0, c1, c2, c3, c4, c5] pN)))), .val (.int (own_ln [c0, c1, c2, c3, c4, c5] pN (1 : Int32))), .val (.int (own_col [c0, c1, c2, c3, c4, c5] pN ((1 : Int32) + (Int32.ofNat pN)))), .val (.int (Int32.ofNat (own_cnt [c0, c1, c2, c3, c4, c5] (pN + (own_cnt [c0, c1, c2, c3, c4, c5] pN))))), .val (.int (Int32.ofNat ((pN + (own_cnt [c0, c1, c2, c3, c4, c5] pN)) + (own_cnt [c0, c1, c2, c3, c4, c5] (pN + (own_cnt [c0, c1, c2, c3, c4, c5] pN)))))), .val (.int (0 : Int32))] [(.int (own_ln [c0, c1, c2, c3, c4, c5] pN (1 : Int32)))])) _
      refine XS.iload X32.here hx rfl (hb hby at_272) rfl ?_
      show Steps p.tables e below (T32.setTop (mkF m 274 #[.val (.long q0), .second, .val (.long q1), .second, .val (.int p2), .val (.ref b1), .val (.int (Int32.ofNat pN)), .val (.int (Int32.ofNat (own_cnt [c0, c1, c2, c3, c4, c5] pN))), .val (.ref b24), .val (.int (Int32.ofNat (own_cnt [c0, c1, c2, c3, c4, c5] pN))), .val (.int (Int32.ofNat (pN + (own_cnt [c0, c1, c2, c3, c4, c5] pN)))), .val (.int (own_ln [c0, c1, c2, c3, c4, c5] pN (1 : Int32))), .val (.int (own_col [c0, c1, c2, c3, c4, c5] pN ((1 : Int32) + (Int32.ofNat pN)))), .val (.int (Int32.ofNat (own_cnt [c0, c1, c2, c3, c4, c5] (pN + (own_cnt [c0, c1, c2, c3, c4, c5] pN))))), .val (.int (Int32.ofNat ((pN + (own_cnt [c0, c1, c2, c3, c4, c5] pN)) + (own_cnt [c0, c1, c2, c3, c4, c5] (pN + (own_cnt [c0, c1, c2, c3, c4, c5] pN)))))), .val (.int (0 : Int32))] [(.int (0 : Int32)), (.int (own_ln [c0, c1, c2, c3, c4, c5] pN (1 : Int32)))])) _
      refine XS.ifYes X32.here hx rfl (pc0 := 274) (pc' := 281) rfl (hb hby at_274) rfl ((if0 _ _).trans (teq (by decide)).1) (by decide) (by decide) ?_
      show Steps p.tables e below (T32.setTop (mkF m 281 #[.val (.long q0), .second, .val (.long q1), .second, .val (.int p2), .val (.ref b1), .val (.int (Int32.ofNat pN)), .val (.int (Int32.ofNat (own_cnt [c0, c1, c2, c3, c4, c5] pN))), .val (.ref b24), .val (.int (Int32.ofNat (own_cnt [c0, c1, c2, c3, c4, c5] pN))), .val (.int (Int32.ofNat (pN + (own_cnt [c0, c1, c2, c3, c4, c5] pN)))), .val (.int (own_ln [c0, c1, c2, c3, c4, c5] pN (1 : Int32))), .val (.int (own_col [c0, c1, c2, c3, c4, c5] pN ((1 : Int32) + (Int32.ofNat pN)))), .val (.int (Int32.ofNat (own_cnt [c0, c1, c2, c3, c4, c5] (pN + (own_cnt [c0, c1, c2, c3, c4, c5] pN))))), .val (.int (Int32.ofNat ((pN + (own_cnt [c0, c1, c2, c3, c4, c5] pN)) + (own_cnt [c0, c1, c2, c3, c4, c5] (pN + (own_cnt [c0, c1, c2, c3, c4, c5] pN)))))), .val (.int (0 : Int32))] [(.int (own_ln [c0, c1, c2, c3, c4, c5] pN (1 : Int32)))])) _
      refine XS.iconst X32.here hx rfl (hb hby at_281) ?_
      show Steps p.tables e below (T32.setTop (mkF m 282 #[.val (.long q0), .second, .val (.long q1), .second, .val (.int p2), .val (.ref b1), .val (.int (Int32.ofNat pN)), .val (.int (Int32.ofNat (own_cnt [c0, c1, c2, c3, c4, c5] pN))), .val (.ref b24), .val (.int (Int32.ofNat (own_cnt [c0, c1, c2, c3, c4, c5] pN))), .val (.int (Int32.ofNat (pN + (own_cnt [c0, c1, c2, c3, c4, c5] pN)))), .val (.int (own_ln [c0, c1, c2, c3, c4, c5] pN (1 : Int32))), .val (.int (own_col [c0, c1, c2, c3, c4, c5] pN ((1 : Int32) + (Int32.ofNat pN)))), .val (.int (Int32.ofNat (own_cnt [c0, c1, c2, c3, c4, c5] (pN + (own_cnt [c0, c1, c2, c3, c4, c5] pN))))), .val (.int (Int32.ofNat ((pN + (own_cnt [c0, c1, c2, c3, c4, c5] pN)) + (own_cnt [c0, c1, c2, c3, c4, c5] (pN + (own_cnt [c0, c1, c2, c3, c4, c5] pN)))))), .val (.int (0 : Int32))] [(.int (1 : Int32)), (.int (own_ln [c0, c1, c2, c3, c4, c5] pN (1 : Int32)))])) _
      exact k
    refine own_go (T' := T32) (g' := (mkF m 301 #[.val (.long q0), .second, .val (.long q1), .second, .val (.int p2), .val (.ref b1), .val (.int (Int32.ofNat pN)), .val (.int (Int32.ofNat (own_cnt [c0, c1, c2, c3, c4, c5] pN))), .val (.ref b24), .val (.int (Int32.ofNat (own_cnt [c0, c1, c2, c3, c4, c5] pN))), .val (.int (Int32.ofNat (pN + (own_cnt [c0, c1, c2, c3, c4, c5] pN)))), .val (.int (own_ln [c0, c1, c2, c3, c4, c5] pN (1 : Int32))), .val (.int (own_col [c0, c1, c2, c3, c4, c5] pN ((1 : Int32) + (Int32.ofNat pN)))), .val (.int (Int32.ofNat (own_cnt [c0, c1, c2, c3, c4, c5] (pN + (own_cnt [c0, c1, c2, c3, c4, c5] pN))))), .val (.int (Int32.ofNat ((pN + (own_cnt [c0, c1, c2, c3, c4, c5] pN)) + (own_cnt [c0, c1, c2, c3, c4, c5] (pN + (own_cnt [c0, c1, c2, c3, c4, c5] pN)))))), .val (.int (0 : Int32))] [(.int ((1 : Int32) + (Int32.ofNat pN))), (.int (own_col [c0, c1, c2, c3, c4, c5] pN ((1 : Int32) + (Int32.ofNat pN))))])) (fun t k => ?_) ?_
    · show Steps p.tables e below (T32.setTop (mkF m 282 #[.val (.long q0), .second, .val (.long q1), .second, .val (.int p2), .val (.ref b1), .val (.int (Int32.ofNat pN)), .val (.int (Int32.ofNat (own_cnt [c0, c1, c2, c3, c4, c5] pN))), .val (.ref b24), .val (.int (Int32.ofNat (own_cnt [c0, c1, c2, c3, c4, c5] pN))), .val (.int (Int32.ofNat (pN + (own_cnt [c0, c1, c2, c3, c4, c5] pN)))), .val (.int (own_ln [c0, c1, c2, c3, c4, c5] pN (1 : Int32))), .val (.int (own_col [c0, c1, c2, c3, c4, c5] pN ((1 : Int32) + (Int32.ofNat pN)))), .val (.int (Int32.ofNat (own_cnt [c0, c1, c2, c3, c4, c5] (pN + (own_cnt [c0, c1, c2, c3, c4, c5] pN))))), .val (.int (Int32.ofNat ((pN + (own_cnt [c0, c1, c2, c3, c4, c5] pN)) + (own_cnt [c0, c1, c2, c3, c4, c5] (pN + (own_cnt [c0, c1, c2, c3, c4, c5] pN)))))), .val (.int (0 : Int32))] [(.int (1 : Int32)), (.int (own_ln [c0, c1, c2, c3, c4, c5] pN (1 : Int32)))])) t
      refine XS.icmpNo X32.here hx rfl (hb hby at_282) rfl (teq (by unfold own_ln; rw [if_pos hcz])).2 ?_
      show Steps p.tables e below (T32.setTop (mkF m 285 #[.val (.long q0), .second, .val (.long q1), .second, .val (.int p2), .val (.ref b1), .val (.int (Int32.ofNat pN)), .val (.int (Int32.ofNat (own_cnt [c0, c1, c2, c3, c4, c5] pN))), .val (.ref b24), .val (.int (Int32.ofNat (own_cnt [c0, c1, c2, c3, c4, c5] pN))), .val (.int (Int32.ofNat (pN + (own_cnt [c0, c1, c2, c3, c4, c5] pN)))), .val (.int (own_ln [c0, c1, c2, c3, c4, c5] pN (1 : Int32))), .val (.int (own_col [c0, c1, c2, c3, c4, c5] pN ((1 : Int32) + (Int32.ofNat pN)))), .val (.int (Int32.ofNat (own_cnt [c0, c1, c2, c3, c4, c5] (pN + (own_cnt [c0, c1, c2, c3, c4, c5] pN))))), .val (.int (Int32.ofNat ((pN + (own_cnt [c0, c1, c2, c3, c4, c5] pN)) + (own_cnt [c0, c1, c2, c3, c4, c5] (pN + (own_cnt [c0, c1, c2, c3, c4, c5] pN)))))), .val (.int (0 : Int32))] [])) _
      refine XS.iload X32.here hx rfl (hb hby at_285) rfl ?_
      show Steps p.tables e below (T32.setTop (mkF m 287 #[.val (.long q0), .second, .val (.long q1), .second, .val (.int p2), .val (.ref b1), .val (.int (Int32.ofNat pN)), .val (.int (Int32.ofNat (own_cnt [c0, c1, c2, c3, c4, c5] pN))), .val (.ref b24), .val (.int (Int32.ofNat (own_cnt [c0, c1, c2, c3, c4, c5] pN))), .val (.int (Int32.ofNat (pN + (own_cnt [c0, c1, c2, c3, c4, c5] pN)))), .val (.int (own_ln [c0, c1, c2, c3, c4, c5] pN (1 : Int32))), .val (.int (own_col [c0, c1, c2, c3, c4, c5] pN ((1 : Int32) + (Int32.ofNat pN)))), .val (.int (Int32.ofNat (own_cnt [c0, c1, c2, c3, c4, c5] (pN + (own_cnt [c0, c1, c2, c3, c4, c5] pN))))), .val (.int (Int32.ofNat ((pN + (own_cnt [c0, c1, c2, c3, c4, c5] pN)) + (own_cnt [c0, c1, c2, c3, c4, c5] (pN + (own_cnt [c0, c1, c2, c3, c4, c5] pN)))))), .val (.int (0 : Int32))] [(.int (own_col [c0, c1, c2, c3, c4, c5] pN ((1 : Int32) + (Int32.ofNat pN))))])) _
      refine XS.iload X32.here hx rfl (hb hby at_287) rfl ?_
      show Steps p.tables e below (T32.setTop (mkF m 289 #[.val (.long q0), .second, .val (.long q1), .second, .val (.int p2), .val (.ref b1), .val (.int (Int32.ofNat pN)), .val (.int (Int32.ofNat (own_cnt [c0, c1, c2, c3, c4, c5] pN))), .val (.ref b24), .val (.int (Int32.ofNat (own_cnt [c0, c1, c2, c3, c4, c5] pN))), .val (.int (Int32.ofNat (pN + (own_cnt [c0, c1, c2, c3, c4, c5] pN)))), .val (.int (own_ln [c0, c1, c2, c3, c4, c5] pN (1 : Int32))), .val (.int (own_col [c0, c1, c2, c3, c4, c5] pN ((1 : Int32) + (Int32.ofNat pN)))), .val (.int (Int32.ofNat (own_cnt [c0, c1, c2, c3, c4, c5] (pN + (own_cnt [c0, c1, c2, c3, c4, c5] pN))))), .val (.int (Int32.ofNat ((pN + (own_cnt [c0, c1, c2, c3, c4, c5] pN)) + (own_cnt [c0, c1, c2, c3, c4, c5] (pN + (own_cnt [c0, c1, c2, c3, c4, c5] pN)))))), .val (.int (0 : Int32))] [(.int (0 : Int32)), (.int (own_col [c0, c1, c2, c3, c4, c5] pN ((1 : Int32) + (Int32.ofNat pN))))])) _
      refine XS.ifYes X32.here hx rfl (pc0 := 289) (pc' := 297) rfl (hb hby at_289) rfl ((if0 _ _).trans (teq (by decide)).1) (by decide) (by decide) ?_
      show Steps p.tables e below (T32.setTop (mkF m 297 #[.val (.long q0), .second, .val (.long q1), .second, .val (.int p2), .val (.ref b1), .val (.int (Int32.ofNat pN)), .val (.int (Int32.ofNat (own_cnt [c0, c1, c2, c3, c4, c5] pN))), .val (.ref b24), .val (.int (Int32.ofNat (own_cnt [c0, c1, c2, c3, c4, c5] pN))), .val (.int (Int32.ofNat (pN + (own_cnt [c0, c1, c2, c3, c4, c5] pN)))), .val (.int (own_ln [c0, c1, c2, c3, c4, c5] pN (1 : Int32))), .val (.int (own_col [c0, c1, c2, c3, c4, c5] pN ((1 : Int32) + (Int32.ofNat pN)))), .val (.int (Int32.ofNat (own_cnt [c0, c1, c2, c3, c4, c5] (pN + (own_cnt [c0, c1, c2, c3, c4, c5] pN))))), .val (.int (Int32.ofNat ((pN + (own_cnt [c0, c1, c2, c3, c4, c5] pN)) + (own_cnt [c0, c1, c2, c3, c4, c5] (pN + (own_cnt [c0, c1, c2, c3, c4, c5] pN)))))), .val (.int (0 : Int32))] [(.int (own_col [c0, c1, c2, c3, c4, c5] pN ((1 : Int32) + (Int32.ofNat pN))))])) _
      refine XS.iconst X32.here hx rfl (hb hby at_297) ?_
      show Steps p.tables e below (T32.setTop (mkF m 298 #[.val (.long q0), .second, .val (.long q1), .second, .val (.int p2), .val (.ref b1), .val (.int (Int32.ofNat pN)), .val (.int (Int32.ofNat (own_cnt [c0, c1, c2, c3, c4, c5] pN))), .val (.ref b24), .val (.int (Int32.ofNat (own_cnt [c0, c1, c2, c3, c4, c5] pN))), .val (.int (Int32.ofNat (pN + (own_cnt [c0, c1, c2, c3, c4, c5] pN)))), .val (.int (own_ln [c0, c1, c2, c3, c4, c5] pN (1 : Int32))), .val (.int (own_col [c0, c1, c2, c3, c4, c5] pN ((1 : Int32) + (Int32.ofNat pN)))), .val (.int (Int32.ofNat (own_cnt [c0, c1, c2, c3, c4, c5] (pN + (own_cnt [c0, c1, c2, c3, c4, c5] pN))))), .val (.int (Int32.ofNat ((pN + (own_cnt [c0, c1, c2, c3, c4, c5] pN)) + (own_cnt [c0, c1, c2, c3, c4, c5] (pN + (own_cnt [c0, c1, c2, c3, c4, c5] pN)))))), .val (.int (0 : Int32))] [(.int (1 : Int32)), (.int (own_col [c0, c1, c2, c3, c4, c5] pN ((1 : Int32) + (Int32.ofNat pN))))])) _
      refine XS.iload X32.here hx rfl (hb hby at_298) rfl ?_
      show Steps p.tables e below (T32.setTop (mkF m 300 #[.val (.long q0), .second, .val (.long q1), .second, .val (.int p2), .val (.ref b1), .val (.int (Int32.ofNat pN)), .val (.int (Int32.ofNat (own_cnt [c0, c1, c2, c3, c4, c5] pN))), .val (.ref b24), .val (.int (Int32.ofNat (own_cnt [c0, c1, c2, c3, c4, c5] pN))), .val (.int (Int32.ofNat (pN + (own_cnt [c0, c1, c2, c3, c4, c5] pN)))), .val (.int (own_ln [c0, c1, c2, c3, c4, c5] pN (1 : Int32))), .val (.int (own_col [c0, c1, c2, c3, c4, c5] pN ((1 : Int32) + (Int32.ofNat pN)))), .val (.int (Int32.ofNat (own_cnt [c0, c1, c2, c3, c4, c5] (pN + (own_cnt [c0, c1, c2, c3, c4, c5] pN))))), .val (.int (Int32.ofNat ((pN + (own_cnt [c0, c1, c2, c3, c4, c5] pN)) + (own_cnt [c0, c1, c2, c3, c4, c5] (pN + (own_cnt [c0, c1, c2, c3, c4, c5] pN)))))), .val (.int (0 : Int32))] [(.int (Int32.ofNat pN)), (.int (1 : Int32)), (.int (own_col [c0, c1, c2, c3, c4, c5] pN ((1 : Int32) + (Int32.ofNat pN))))])) _
      refine XS.iadd X32.here hx rfl (hb hby at_300) rfl ?_
      show Steps p.tables e below (T32.setTop (mkF m 301 #[.val (.long q0), .second, .val (.long q1), .second, .val (.int p2), .val (.ref b1), .val (.int (Int32.ofNat pN)), .val (.int (Int32.ofNat (own_cnt [c0, c1, c2, c3, c4, c5] pN))), .val (.ref b24), .val (.int (Int32.ofNat (own_cnt [c0, c1, c2, c3, c4, c5] pN))), .val (.int (Int32.ofNat (pN + (own_cnt [c0, c1, c2, c3, c4, c5] pN)))), .val (.int (own_ln [c0, c1, c2, c3, c4, c5] pN (1 : Int32))), .val (.int (own_col [c0, c1, c2, c3, c4, c5] pN ((1 : Int32) + (Int32.ofNat pN)))), .val (.int (Int32.ofNat (own_cnt [c0, c1, c2, c3, c4, c5] (pN + (own_cnt [c0, c1, c2, c3, c4, c5] pN))))), .val (.int (Int32.ofNat ((pN + (own_cnt [c0, c1, c2, c3, c4, c5] pN)) + (own_cnt [c0, c1, c2, c3, c4, c5] (pN + (own_cnt [c0, c1, c2, c3, c4, c5] pN)))))), .val (.int (0 : Int32))] [(.int ((1 : Int32) + (Int32.ofNat pN))), (.int (own_col [c0, c1, c2, c3, c4, c5] pN ((1 : Int32) + (Int32.ofNat pN))))])) _
      exact k
    refine own_go (T' := T32) (g' := (mkF m 306 #[.val (.long q0), .second, .val (.long q1), .second, .val (.int p2), .val (.ref b1), .val (.int (Int32.ofNat pN)), .val (.int (Int32.ofNat (own_cnt [c0, c1, c2, c3, c4, c5] pN))), .val (.ref b24), .val (.int (Int32.ofNat (own_cnt [c0, c1, c2, c3, c4, c5] pN))), .val (.int (Int32.ofNat (pN + (own_cnt [c0, c1, c2, c3, c4, c5] pN)))), .val (.int (own_ln [c0, c1, c2, c3, c4, c5] pN (1 : Int32))), .val (.int (own_col [c0, c1, c2, c3, c4, c5] pN ((1 : Int32) + (Int32.ofNat pN)))), .val (.int (Int32.ofNat (own_cnt [c0, c1, c2, c3, c4, c5] (pN + (own_cnt [c0, c1, c2, c3, c4, c5] pN))))), .val (.int (Int32.ofNat ((pN + (own_cnt [c0, c1, c2, c3, c4, c5] pN)) + (own_cnt [c0, c1, c2, c3, c4, c5] (pN + (own_cnt [c0, c1, c2, c3, c4, c5] pN)))))), .val (.int (0 : Int32))] [(.int (Int32.ofNat (own_cnt [c0, c1, c2, c3, c4, c5] (pN + (own_cnt [c0, c1, c2, c3, c4, c5] pN)))))])) (fun t k => ?_) ?_
    · show Steps p.tables e below (T32.setTop (mkF m 301 #[.val (.long q0), .second, .val (.long q1), .second, .val (.int p2), .val (.ref b1), .val (.int (Int32.ofNat pN)), .val (.int (Int32.ofNat (own_cnt [c0, c1, c2, c3, c4, c5] pN))), .val (.ref b24), .val (.int (Int32.ofNat (own_cnt [c0, c1, c2, c3, c4, c5] pN))), .val (.int (Int32.ofNat (pN + (own_cnt [c0, c1, c2, c3, c4, c5] pN)))), .val (.int (own_ln [c0, c1, c2, c3, c4, c5] pN (1 : Int32))), .val (.int (own_col [c0, c1, c2, c3, c4, c5] pN ((1 : Int32) + (Int32.ofNat pN)))), .val (.int (Int32.ofNat (own_cnt [c0, c1, c2, c3, c4, c5] (pN + (own_cnt [c0, c1, c2, c3, c4, c5] pN))))), .val (.int (Int32.ofNat ((pN + (own_cnt [c0, c1, c2, c3, c4, c5] pN)) + (own_cnt [c0, c1, c2, c3, c4, c5] (pN + (own_cnt [c0, c1, c2, c3, c4, c5] pN)))))), .val (.int (0 : Int32))] [(.int ((1 : Int32) + (Int32.ofNat pN))), (.int (own_col [c0, c1, c2, c3, c4, c5] pN ((1 : Int32) + (Int32.ofNat pN))))])) t
      refine XS.icmpNo X32.here hx rfl (hb hby at_301) rfl (teq (by unfold own_col; rw [if_pos hcz])).2 ?_
      show Steps p.tables e below (T32.setTop (mkF m 304 #[.val (.long q0), .second, .val (.long q1), .second, .val (.int p2), .val (.ref b1), .val (.int (Int32.ofNat pN)), .val (.int (Int32.ofNat (own_cnt [c0, c1, c2, c3, c4, c5] pN))), .val (.ref b24), .val (.int (Int32.ofNat (own_cnt [c0, c1, c2, c3, c4, c5] pN))), .val (.int (Int32.ofNat (pN + (own_cnt [c0, c1, c2, c3, c4, c5] pN)))), .val (.int (own_ln [c0, c1, c2, c3, c4, c5] pN (1 : Int32))), .val (.int (own_col [c0, c1, c2, c3, c4, c5] pN ((1 : Int32) + (Int32.ofNat pN)))), .val (.int (Int32.ofNat (own_cnt [c0, c1, c2, c3, c4, c5] (pN + (own_cnt [c0, c1, c2, c3, c4, c5] pN))))), .val (.int (Int32.ofNat ((pN + (own_cnt [c0, c1, c2, c3, c4, c5] pN)) + (own_cnt [c0, c1, c2, c3, c4, c5] (pN + (own_cnt [c0, c1, c2, c3, c4, c5] pN)))))), .val (.int (0 : Int32))] [])) _
      refine XS.iload X32.here hx rfl (hb hby at_304) rfl ?_
      show Steps p.tables e below (T32.setTop (mkF m 306 #[.val (.long q0), .second, .val (.long q1), .second, .val (.int p2), .val (.ref b1), .val (.int (Int32.ofNat pN)), .val (.int (Int32.ofNat (own_cnt [c0, c1, c2, c3, c4, c5] pN))), .val (.ref b24), .val (.int (Int32.ofNat (own_cnt [c0, c1, c2, c3, c4, c5] pN))), .val (.int (Int32.ofNat (pN + (own_cnt [c0, c1, c2, c3, c4, c5] pN)))), .val (.int (own_ln [c0, c1, c2, c3, c4, c5] pN (1 : Int32))), .val (.int (own_col [c0, c1, c2, c3, c4, c5] pN ((1 : Int32) + (Int32.ofNat pN)))), .val (.int (Int32.ofNat (own_cnt [c0, c1, c2, c3, c4, c5] (pN + (own_cnt [c0, c1, c2, c3, c4, c5] pN))))), .val (.int (Int32.ofNat ((pN + (own_cnt [c0, c1, c2, c3, c4, c5] pN)) + (own_cnt [c0, c1, c2, c3, c4, c5] (pN + (own_cnt [c0, c1, c2, c3, c4, c5] pN)))))), .val (.int (0 : Int32))] [(.int (Int32.ofNat (own_cnt [c0, c1, c2, c3, c4, c5] (pN + (own_cnt [c0, c1, c2, c3, c4, c5] pN)))))])) _
      exact k
    refine own_go (T' := T32) (g' := (mkF m 313 #[.val (.long q0), .second, .val (.long q1), .second, .val (.int p2), .val (.ref b1), .val (.int (Int32.ofNat pN)), .val (.int (Int32.ofNat (own_cnt [c0, c1, c2, c3, c4, c5] pN))), .val (.ref b24), .val (.int (Int32.ofNat (own_cnt [c0, c1, c2, c3, c4, c5] pN))), .val (.int (Int32.ofNat (pN + (own_cnt [c0, c1, c2, c3, c4, c5] pN)))), .val (.int (own_ln [c0, c1, c2, c3, c4, c5] pN (1 : Int32))), .val (.int (own_col [c0, c1, c2, c3, c4, c5] pN ((1 : Int32) + (Int32.ofNat pN)))), .val (.int (Int32.ofNat (own_cnt [c0, c1, c2, c3, c4, c5] (pN + (own_cnt [c0, c1, c2, c3, c4, c5] pN))))), .val (.int (Int32.ofNat ((pN + (own_cnt [c0, c1, c2, c3, c4, c5] pN)) + (own_cnt [c0, c1, c2, c3, c4, c5] (pN + (own_cnt [c0, c1, c2, c3, c4, c5] pN)))))), .val (.int (0 : Int32))] [(.int (Int32.ofNat (pN + (own_cnt [c0, c1, c2, c3, c4, c5] pN)))), (.int (Int32.ofNat ((pN + (own_cnt [c0, c1, c2, c3, c4, c5] pN)) + (own_cnt [c0, c1, c2, c3, c4, c5] (pN + (own_cnt [c0, c1, c2, c3, c4, c5] pN))))))])) (fun t k => ?_) ?_
    · show Steps p.tables e below (T32.setTop (mkF m 306 #[.val (.long q0), .second, .val (.long q1), .second, .val (.int p2), .val (.ref b1), .val (.int (Int32.ofNat pN)), .val (.int (Int32.ofNat (own_cnt [c0, c1, c2, c3, c4, c5] pN))), .val (.ref b24), .val (.int (Int32.ofNat (own_cnt [c0, c1, c2, c3, c4, c5] pN))), .val (.int (Int32.ofNat (pN + (own_cnt [c0, c1, c2, c3, c4, c5] pN)))), .val (.int (own_ln [c0, c1, c2, c3, c4, c5] pN (1 : Int32))), .val (.int (own_col [c0, c1, c2, c3, c4, c5] pN ((1 : Int32) + (Int32.ofNat pN)))), .val (.int (Int32.ofNat (own_cnt [c0, c1, c2, c3, c4, c5] (pN + (own_cnt [c0, c1, c2, c3, c4, c5] pN))))), .val (.int (Int32.ofNat ((pN + (own_cnt [c0, c1, c2, c3, c4, c5] pN)) + (own_cnt [c0, c1, c2, c3, c4, c5] (pN + (own_cnt [c0, c1, c2, c3, c4, c5] pN)))))), .val (.int (0 : Int32))] [(.int (Int32.ofNat (own_cnt [c0, c1, c2, c3, c4, c5] (pN + (own_cnt [c0, c1, c2, c3, c4, c5] pN)))))])) t
      refine XS.ifNo X32.here hx rfl (hb hby at_306) rfl ((if0 _ _).trans (teq (by rw [hag]; rfl)).2) ?_
      show Steps p.tables e below (T32.setTop (mkF m 309 #[.val (.long q0), .second, .val (.long q1), .second, .val (.int p2), .val (.ref b1), .val (.int (Int32.ofNat pN)), .val (.int (Int32.ofNat (own_cnt [c0, c1, c2, c3, c4, c5] pN))), .val (.ref b24), .val (.int (Int32.ofNat (own_cnt [c0, c1, c2, c3, c4, c5] pN))), .val (.int (Int32.ofNat (pN + (own_cnt [c0, c1, c2, c3, c4, c5] pN)))), .val (.int (own_ln [c0, c1, c2, c3, c4, c5] pN (1 : Int32))), .val (.int (own_col [c0, c1, c2, c3, c4, c5] pN ((1 : Int32) + (Int32.ofNat pN)))), .val (.int (Int32.ofNat (own_cnt [c0, c1, c2, c3, c4, c5] (pN + (own_cnt [c0, c1, c2, c3, c4, c5] pN))))), .val (.int (Int32.ofNat ((pN + (own_cnt [c0, c1, c2, c3, c4, c5] pN)) + (own_cnt [c0, c1, c2, c3, c4, c5] (pN + (own_cnt [c0, c1, c2, c3, c4, c5] pN)))))), .val (.int (0 : Int32))] [])) _
      refine XS.iload X32.here hx rfl (hb hby at_309) rfl ?_
      show Steps p.tables e below (T32.setTop (mkF m 311 #[.val (.long q0), .second, .val (.long q1), .second, .val (.int p2), .val (.ref b1), .val (.int (Int32.ofNat pN)), .val (.int (Int32.ofNat (own_cnt [c0, c1, c2, c3, c4, c5] pN))), .val (.ref b24), .val (.int (Int32.ofNat (own_cnt [c0, c1, c2, c3, c4, c5] pN))), .val (.int (Int32.ofNat (pN + (own_cnt [c0, c1, c2, c3, c4, c5] pN)))), .val (.int (own_ln [c0, c1, c2, c3, c4, c5] pN (1 : Int32))), .val (.int (own_col [c0, c1, c2, c3, c4, c5] pN ((1 : Int32) + (Int32.ofNat pN)))), .val (.int (Int32.ofNat (own_cnt [c0, c1, c2, c3, c4, c5] (pN + (own_cnt [c0, c1, c2, c3, c4, c5] pN))))), .val (.int (Int32.ofNat ((pN + (own_cnt [c0, c1, c2, c3, c4, c5] pN)) + (own_cnt [c0, c1, c2, c3, c4, c5] (pN + (own_cnt [c0, c1, c2, c3, c4, c5] pN)))))), .val (.int (0 : Int32))] [(.int (Int32.ofNat ((pN + (own_cnt [c0, c1, c2, c3, c4, c5] pN)) + (own_cnt [c0, c1, c2, c3, c4, c5] (pN + (own_cnt [c0, c1, c2, c3, c4, c5] pN))))))])) _
      refine XS.iload X32.here hx rfl (hb hby at_311) rfl ?_
      show Steps p.tables e below (T32.setTop (mkF m 313 #[.val (.long q0), .second, .val (.long q1), .second, .val (.int p2), .val (.ref b1), .val (.int (Int32.ofNat pN)), .val (.int (Int32.ofNat (own_cnt [c0, c1, c2, c3, c4, c5] pN))), .val (.ref b24), .val (.int (Int32.ofNat (own_cnt [c0, c1, c2, c3, c4, c5] pN))), .val (.int (Int32.ofNat (pN + (own_cnt [c0, c1, c2, c3, c4, c5] pN)))), .val (.int (own_ln [c0, c1, c2, c3, c4, c5] pN (1 : Int32))), .val (.int (own_col [c0, c1, c2, c3, c4, c5] pN ((1 : Int32) + (Int32.ofNat pN)))), .val (.int (Int32.ofNat (own_cnt [c0, c1, c2, c3, c4, c5] (pN + (own_cnt [c0, c1, c2, c3, c4, c5] pN))))), .val (.int (Int32.ofNat ((pN + (own_cnt [c0, c1, c2, c3, c4, c5] pN)) + (own_cnt [c0, c1, c2, c3, c4, c5] (pN + (own_cnt [c0, c1, c2, c3, c4, c5] pN)))))), .val (.int (0 : Int32))] [(.int (Int32.ofNat (pN + (own_cnt [c0, c1, c2, c3, c4, c5] pN)))), (.int (Int32.ofNat ((pN + (own_cnt [c0, c1, c2, c3, c4, c5] pN)) + (own_cnt [c0, c1, c2, c3, c4, c5] (pN + (own_cnt [c0, c1, c2, c3, c4, c5] pN))))))])) _
      exact k
    refine own_go (T' := T32) (g' := (mkF m 321 #[.val (.long q0), .second, .val (.long q1), .second, .val (.int p2), .val (.ref b1), .val (.int (Int32.ofNat pN)), .val (.int (Int32.ofNat (own_cnt [c0, c1, c2, c3, c4, c5] pN))), .val (.ref b24), .val (.int (Int32.ofNat (own_cnt [c0, c1, c2, c3, c4, c5] pN))), .val (.int (Int32.ofNat (pN + (own_cnt [c0, c1, c2, c3, c4, c5] pN)))), .val (.int (own_ln [c0, c1, c2, c3, c4, c5] pN (1 : Int32))), .val (.int (own_col [c0, c1, c2, c3, c4, c5] pN ((1 : Int32) + (Int32.ofNat pN)))), .val (.int (Int32.ofNat (own_cnt [c0, c1, c2, c3, c4, c5] (pN + (own_cnt [c0, c1, c2, c3, c4, c5] pN))))), .val (.int (Int32.ofNat ((pN + (own_cnt [c0, c1, c2, c3, c4, c5] pN)) + (own_cnt [c0, c1, c2, c3, c4, c5] (pN + (own_cnt [c0, c1, c2, c3, c4, c5] pN)))))), .val (.int (0 : Int32))] [(.int (1 : Int32))])) (fun t k => ?_) ?_
    · show Steps p.tables e below (T32.setTop (mkF m 313 #[.val (.long q0), .second, .val (.long q1), .second, .val (.int p2), .val (.ref b1), .val (.int (Int32.ofNat pN)), .val (.int (Int32.ofNat (own_cnt [c0, c1, c2, c3, c4, c5] pN))), .val (.ref b24), .val (.int (Int32.ofNat (own_cnt [c0, c1, c2, c3, c4, c5] pN))), .val (.int (Int32.ofNat (pN + (own_cnt [c0, c1, c2, c3, c4, c5] pN)))), .val (.int (own_ln [c0, c1, c2, c3, c4, c5] pN (1 : Int32))), .val (.int (own_col [c0, c1, c2, c3, c4, c5] pN ((1 : Int32) + (Int32.ofNat pN)))), .val (.int (Int32.ofNat (own_cnt [c0, c1, c2, c3, c4, c5] (pN + (own_cnt [c0, c1, c2, c3, c4, c5] pN))))), .val (.int (Int32.ofNat ((pN + (own_cnt [c0, c1, c2, c3, c4, c5] pN)) + (own_cnt [c0, c1, c2, c3, c4, c5] (pN + (own_cnt [c0, c1, c2, c3, c4, c5] pN)))))), .val (.int (0 : Int32))] [(.int (Int32.ofNat (pN + (own_cnt [c0, c1, c2, c3, c4, c5] pN)))), (.int (Int32.ofNat ((pN + (own_cnt [c0, c1, c2, c3, c4, c5] pN)) + (own_cnt [c0, c1, c2, c3, c4, c5] (pN + (own_cnt [c0, c1, c2, c3, c4, c5] pN))))))])) t
      refine XS.icmpNo X32.here hx rfl (hb hby at_313) rfl (teq (by rw [hag]; rfl)).2 ?_
      show Steps p.tables e below (T32.setTop (mkF m 316 #[.val (.long q0), .second, .val (.long q1), .second, .val (.int p2), .val (.ref b1), .val (.int (Int32.ofNat pN)), .val (.int (Int32.ofNat (own_cnt [c0, c1, c2, c3, c4, c5] pN))), .val (.ref b24), .val (.int (Int32.ofNat (own_cnt [c0, c1, c2, c3, c4, c5] pN))), .val (.int (Int32.ofNat (pN + (own_cnt [c0, c1, c2, c3, c4, c5] pN)))), .val (.int (own_ln [c0, c1, c2, c3, c4, c5] pN (1 : Int32))), .val (.int (own_col [c0, c1, c2, c3, c4, c5] pN ((1 : Int32) + (Int32.ofNat pN)))), .val (.int (Int32.ofNat (own_cnt [c0, c1, c2, c3, c4, c5] (pN + (own_cnt [c0, c1, c2, c3, c4, c5] pN))))), .val (.int (Int32.ofNat ((pN + (own_cnt [c0, c1, c2, c3, c4, c5] pN)) + (own_cnt [c0, c1, c2, c3, c4, c5] (pN + (own_cnt [c0, c1, c2, c3, c4, c5] pN)))))), .val (.int (0 : Int32))] [])) _
      refine XS.iconst X32.here hx rfl (hb hby at_316) ?_
      show Steps p.tables e below (T32.setTop (mkF m 317 #[.val (.long q0), .second, .val (.long q1), .second, .val (.int p2), .val (.ref b1), .val (.int (Int32.ofNat pN)), .val (.int (Int32.ofNat (own_cnt [c0, c1, c2, c3, c4, c5] pN))), .val (.ref b24), .val (.int (Int32.ofNat (own_cnt [c0, c1, c2, c3, c4, c5] pN))), .val (.int (Int32.ofNat (pN + (own_cnt [c0, c1, c2, c3, c4, c5] pN)))), .val (.int (own_ln [c0, c1, c2, c3, c4, c5] pN (1 : Int32))), .val (.int (own_col [c0, c1, c2, c3, c4, c5] pN ((1 : Int32) + (Int32.ofNat pN)))), .val (.int (Int32.ofNat (own_cnt [c0, c1, c2, c3, c4, c5] (pN + (own_cnt [c0, c1, c2, c3, c4, c5] pN))))), .val (.int (Int32.ofNat ((pN + (own_cnt [c0, c1, c2, c3, c4, c5] pN)) + (own_cnt [c0, c1, c2, c3, c4, c5] (pN + (own_cnt [c0, c1, c2, c3, c4, c5] pN)))))), .val (.int (0 : Int32))] [(.int (1 : Int32))])) _
      refine XS.goto X32.here hx rfl (pc0 := 317) (pc' := 321) rfl (hb hby at_317) (by decide) (by decide) ?_
      show Steps p.tables e below (T32.setTop (mkF m 321 #[.val (.long q0), .second, .val (.long q1), .second, .val (.int p2), .val (.ref b1), .val (.int (Int32.ofNat pN)), .val (.int (Int32.ofNat (own_cnt [c0, c1, c2, c3, c4, c5] pN))), .val (.ref b24), .val (.int (Int32.ofNat (own_cnt [c0, c1, c2, c3, c4, c5] pN))), .val (.int (Int32.ofNat (pN + (own_cnt [c0, c1, c2, c3, c4, c5] pN)))), .val (.int (own_ln [c0, c1, c2, c3, c4, c5] pN (1 : Int32))), .val (.int (own_col [c0, c1, c2, c3, c4, c5] pN ((1 : Int32) + (Int32.ofNat pN)))), .val (.int (Int32.ofNat (own_cnt [c0, c1, c2, c3, c4, c5] (pN + (own_cnt [c0, c1, c2, c3, c4, c5] pN))))), .val (.int (Int32.ofNat ((pN + (own_cnt [c0, c1, c2, c3, c4, c5] pN)) + (own_cnt [c0, c1, c2, c3, c4, c5] (pN + (own_cnt [c0, c1, c2, c3, c4, c5] pN)))))), .val (.int (0 : Int32))] [(.int (1 : Int32))])) _
      exact k
    exact own_retN X32 hx hlk hret (by simp) (hb hby at_321) (by decide) (by decide) N32 ⟨rfl, trivial⟩
  · refine own_go (T' := T32) (g' := (mkF m 247 #[.val (.long q0), .second, .val (.long q1), .second, .val (.int p2), .val (.ref b1), .val (.int (Int32.ofNat pN)), .val (.int (Int32.ofNat (own_cnt [c0, c1, c2, c3, c4, c5] pN))), .val (.ref b24), .val (.int (Int32.ofNat (own_cnt [c0, c1, c2, c3, c4, c5] pN))), .val (.int (Int32.ofNat (pN + (own_cnt [c0, c1, c2, c3, c4, c5] pN)))), .val (.int (own_ln [c0, c1, c2, c3, c4, c5] pN (1 : Int32))), .val (.int (own_col [c0, c1, c2, c3, c4, c5] pN ((1 : Int32) + (Int32.ofNat pN)))), .val (.int (Int32.ofNat (own_cnt [c0, c1, c2, c3, c4, c5] (pN + (own_cnt [c0, c1, c2, c3, c4, c5] pN))))), .val (.int (Int32.ofNat ((pN + (own_cnt [c0, c1, c2, c3, c4, c5] pN)) + (own_cnt [c0, c1, c2, c3, c4, c5] (pN + (own_cnt [c0, c1, c2, c3, c4, c5] pN)))))), .val (.int (1 : Int32))] [(.int (Int32.ofNat (own_cnt [c0, c1, c2, c3, c4, c5] pN))), (.int (Int32.ofNat (own_cnt [c0, c1, c2, c3, c4, c5] pN)))])) (fun t k => ?_) ?_
    · show Steps p.tables e below (T32.setTop (mkF m 233 #[.val (.long q0), .second, .val (.long q1), .second, .val (.int p2), .val (.ref b1), .val (.int (Int32.ofNat pN)), .val (.int (Int32.ofNat (own_cnt [c0, c1, c2, c3, c4, c5] pN))), .val (.ref b24), .val (.int (Int32.ofNat (own_cnt [c0, c1, c2, c3, c4, c5] pN))), .val (.int (Int32.ofNat (pN + (own_cnt [c0, c1, c2, c3, c4, c5] pN)))), .val (.int (own_ln [c0, c1, c2, c3, c4, c5] pN (1 : Int32))), .val (.int (own_col [c0, c1, c2, c3, c4, c5] pN ((1 : Int32) + (Int32.ofNat pN)))), .val (.int (Int32.ofNat (own_cnt [c0, c1, c2, c3, c4, c5] (pN + (own_cnt [c0, c1, c2, c3, c4, c5] pN))))), .val (.int (Int32.ofNat ((pN + (own_cnt [c0, c1, c2, c3, c4, c5] pN)) + (own_cnt [c0, c1, c2, c3, c4, c5] (pN + (own_cnt [c0, c1, c2, c3, c4, c5] pN)))))), .unset] [(.int (Int32.ofNat (own_cnt [c0, c1, c2, c3, c4, c5] pN)))])) t
      refine XS.ifNo X32.here hx rfl (hb hby at_233) rfl ((if0 _ _).trans (tlt (own_pos6 (by omega) (by have := own_posb (cs := [c0, c1, c2, c3, c4, c5]) hp6; omega))).2.2.2) ?_
      show Steps p.tables e below (T32.setTop (mkF m 236 #[.val (.long q0), .second, .val (.long q1), .second, .val (.int p2), .val (.ref b1), .val (.int (Int32.ofNat pN)), .val (.int (Int32.ofNat (own_cnt [c0, c1, c2, c3, c4, c5] pN))), .val (.ref b24), .val (.int (Int32.ofNat (own_cnt [c0, c1, c2, c3, c4, c5] pN))), .val (.int (Int32.ofNat (pN + (own_cnt [c0, c1, c2, c3, c4, c5] pN)))), .val (.int (own_ln [c0, c1, c2, c3, c4, c5] pN (1 : Int32))), .val (.int (own_col [c0, c1, c2, c3, c4, c5] pN ((1 : Int32) + (Int32.ofNat pN)))), .val (.int (Int32.ofNat (own_cnt [c0, c1, c2, c3, c4, c5] (pN + (own_cnt [c0, c1, c2, c3, c4, c5] pN))))), .val (.int (Int32.ofNat ((pN + (own_cnt [c0, c1, c2, c3, c4, c5] pN)) + (own_cnt [c0, c1, c2, c3, c4, c5] (pN + (own_cnt [c0, c1, c2, c3, c4, c5] pN)))))), .unset] [])) _
      refine XS.iconst X32.here hx rfl (hb hby at_236) ?_
      show Steps p.tables e below (T32.setTop (mkF m 237 #[.val (.long q0), .second, .val (.long q1), .second, .val (.int p2), .val (.ref b1), .val (.int (Int32.ofNat pN)), .val (.int (Int32.ofNat (own_cnt [c0, c1, c2, c3, c4, c5] pN))), .val (.ref b24), .val (.int (Int32.ofNat (own_cnt [c0, c1, c2, c3, c4, c5] pN))), .val (.int (Int32.ofNat (pN + (own_cnt [c0, c1, c2, c3, c4, c5] pN)))), .val (.int (own_ln [c0, c1, c2, c3, c4, c5] pN (1 : Int32))), .val (.int (own_col [c0, c1, c2, c3, c4, c5] pN ((1 : Int32) + (Int32.ofNat pN)))), .val (.int (Int32.ofNat (own_cnt [c0, c1, c2, c3, c4, c5] (pN + (own_cnt [c0, c1, c2, c3, c4, c5] pN))))), .val (.int (Int32.ofNat ((pN + (own_cnt [c0, c1, c2, c3, c4, c5] pN)) + (own_cnt [c0, c1, c2, c3, c4, c5] (pN + (own_cnt [c0, c1, c2, c3, c4, c5] pN)))))), .unset] [(.int (1 : Int32))])) _
      refine XS.goto X32.here hx rfl (pc0 := 237) (pc' := 241) rfl (hb hby at_237) (by decide) (by decide) ?_
      show Steps p.tables e below (T32.setTop (mkF m 241 #[.val (.long q0), .second, .val (.long q1), .second, .val (.int p2), .val (.ref b1), .val (.int (Int32.ofNat pN)), .val (.int (Int32.ofNat (own_cnt [c0, c1, c2, c3, c4, c5] pN))), .val (.ref b24), .val (.int (Int32.ofNat (own_cnt [c0, c1, c2, c3, c4, c5] pN))), .val (.int (Int32.ofNat (pN + (own_cnt [c0, c1, c2, c3, c4, c5] pN)))), .val (.int (own_ln [c0, c1, c2, c3, c4, c5] pN (1 : Int32))), .val (.int (own_col [c0, c1, c2, c3, c4, c5] pN ((1 : Int32) + (Int32.ofNat pN)))), .val (.int (Int32.ofNat (own_cnt [c0, c1, c2, c3, c4, c5] (pN + (own_cnt [c0, c1, c2, c3, c4, c5] pN))))), .val (.int (Int32.ofNat ((pN + (own_cnt [c0, c1, c2, c3, c4, c5] pN)) + (own_cnt [c0, c1, c2, c3, c4, c5] (pN + (own_cnt [c0, c1, c2, c3, c4, c5] pN)))))), .unset] [(.int (1 : Int32))])) _
      refine XS.istore X32.here hx rfl (hb hby at_241) rfl (l' := #[.val (.long q0), .second, .val (.long q1), .second, .val (.int p2), .val (.ref b1), .val (.int (Int32.ofNat pN)), .val (.int (Int32.ofNat (own_cnt [c0, c1, c2, c3, c4, c5] pN))), .val (.ref b24), .val (.int (Int32.ofNat (own_cnt [c0, c1, c2, c3, c4, c5] pN))), .val (.int (Int32.ofNat (pN + (own_cnt [c0, c1, c2, c3, c4, c5] pN)))), .val (.int (own_ln [c0, c1, c2, c3, c4, c5] pN (1 : Int32))), .val (.int (own_col [c0, c1, c2, c3, c4, c5] pN ((1 : Int32) + (Int32.ofNat pN)))), .val (.int (Int32.ofNat (own_cnt [c0, c1, c2, c3, c4, c5] (pN + (own_cnt [c0, c1, c2, c3, c4, c5] pN))))), .val (.int (Int32.ofNat ((pN + (own_cnt [c0, c1, c2, c3, c4, c5] pN)) + (own_cnt [c0, c1, c2, c3, c4, c5] (pN + (own_cnt [c0, c1, c2, c3, c4, c5] pN)))))), .val (.int (1 : Int32))]) rfl ?_
      show Steps p.tables e below (T32.setTop (mkF m 243 #[.val (.long q0), .second, .val (.long q1), .second, .val (.int p2), .val (.ref b1), .val (.int (Int32.ofNat pN)), .val (.int (Int32.ofNat (own_cnt [c0, c1, c2, c3, c4, c5] pN))), .val (.ref b24), .val (.int (Int32.ofNat (own_cnt [c0, c1, c2, c3, c4, c5] pN))), .val (.int (Int32.ofNat (pN + (own_cnt [c0, c1, c2, c3, c4, c5] pN)))), .val (.int (own_ln [c0, c1, c2, c3, c4, c5] pN (1 : Int32))), .val (.int (own_col [c0, c1, c2, c3, c4, c5] pN ((1 : Int32) + (Int32.ofNat pN)))), .val (.int (Int32.ofNat (own_cnt [c0, c1, c2, c3, c4, c5] (pN + (own_cnt [c0, c1, c2, c3, c4, c5] pN))))), .val (.int (Int32.ofNat ((pN + (own_cnt [c0, c1, c2, c3, c4, c5] pN)) + (own_cnt [c0, c1, c2, c3, c4, c5] (pN + (own_cnt [c0, c1, c2, c3, c4, c5] pN)))))), .val (.int (1 : Int32))] [])) _
      refine XS.iload X32.here hx rfl (hb hby at_243) rfl ?_
      show Steps p.tables e below (T32.setTop (mkF m 245 #[.val (.long q0), .second, .val (.long q1), .second, .val (.int p2), .val (.ref b1), .val (.int (Int32.ofNat pN)), .val (.int (Int32.ofNat (own_cnt [c0, c1, c2, c3, c4, c5] pN))), .val (.ref b24), .val (.int (Int32.ofNat (own_cnt [c0, c1, c2, c3, c4, c5] pN))), .val (.int (Int32.ofNat (pN + (own_cnt [c0, c1, c2, c3, c4, c5] pN)))), .val (.int (own_ln [c0, c1, c2, c3, c4, c5] pN (1 : Int32))), .val (.int (own_col [c0, c1, c2, c3, c4, c5] pN ((1 : Int32) + (Int32.ofNat pN)))), .val (.int (Int32.ofNat (own_cnt [c0, c1, c2, c3, c4, c5] (pN + (own_cnt [c0, c1, c2, c3, c4, c5] pN))))), .val (.int (Int32.ofNat ((pN + (own_cnt [c0, c1, c2, c3, c4, c5] pN)) + (own_cnt [c0, c1, c2, c3, c4, c5] (pN + (own_cnt [c0, c1, c2, c3, c4, c5] pN)))))), .val (.int (1 : Int32))] [(.int (Int32.ofNat (own_cnt [c0, c1, c2, c3, c4, c5] pN)))])) _
      refine XS.iload X32.here hx rfl (hb hby at_245) rfl ?_
      show Steps p.tables e below (T32.setTop (mkF m 247 #[.val (.long q0), .second, .val (.long q1), .second, .val (.int p2), .val (.ref b1), .val (.int (Int32.ofNat pN)), .val (.int (Int32.ofNat (own_cnt [c0, c1, c2, c3, c4, c5] pN))), .val (.ref b24), .val (.int (Int32.ofNat (own_cnt [c0, c1, c2, c3, c4, c5] pN))), .val (.int (Int32.ofNat (pN + (own_cnt [c0, c1, c2, c3, c4, c5] pN)))), .val (.int (own_ln [c0, c1, c2, c3, c4, c5] pN (1 : Int32))), .val (.int (own_col [c0, c1, c2, c3, c4, c5] pN ((1 : Int32) + (Int32.ofNat pN)))), .val (.int (Int32.ofNat (own_cnt [c0, c1, c2, c3, c4, c5] (pN + (own_cnt [c0, c1, c2, c3, c4, c5] pN))))), .val (.int (Int32.ofNat ((pN + (own_cnt [c0, c1, c2, c3, c4, c5] pN)) + (own_cnt [c0, c1, c2, c3, c4, c5] (pN + (own_cnt [c0, c1, c2, c3, c4, c5] pN)))))), .val (.int (1 : Int32))] [(.int (Int32.ofNat (own_cnt [c0, c1, c2, c3, c4, c5] pN))), (.int (Int32.ofNat (own_cnt [c0, c1, c2, c3, c4, c5] pN)))])) _
      exact k
    refine own_go (T' := T32) (g' := (mkF m 267 #[.val (.long q0), .second, .val (.long q1), .second, .val (.int p2), .val (.ref b1), .val (.int (Int32.ofNat pN)), .val (.int (Int32.ofNat (own_cnt [c0, c1, c2, c3, c4, c5] pN))), .val (.ref b24), .val (.int (Int32.ofNat (own_cnt [c0, c1, c2, c3, c4, c5] pN))), .val (.int (Int32.ofNat (pN + (own_cnt [c0, c1, c2, c3, c4, c5] pN)))), .val (.int (own_ln [c0, c1, c2, c3, c4, c5] pN (1 : Int32))), .val (.int (own_col [c0, c1, c2, c3, c4, c5] pN ((1 : Int32) + (Int32.ofNat pN)))), .val (.int (Int32.ofNat (own_cnt [c0, c1, c2, c3, c4, c5] (pN + (own_cnt [c0, c1, c2, c3, c4, c5] pN))))), .val (.int (Int32.ofNat ((pN + (own_cnt [c0, c1, c2, c3, c4, c5] pN)) + (own_cnt [c0, c1, c2, c3, c4, c5] (pN + (own_cnt [c0, c1, c2, c3, c4, c5] pN)))))), .val (.int (1 : Int32))] [(.int ((Int32.ofNat pN) + (Int32.ofNat (own_cnt [c0, c1, c2, c3, c4, c5] pN)))), (.int (Int32.ofNat (pN + (own_cnt [c0, c1, c2, c3, c4, c5] pN))))])) (fun t k => ?_) ?_
    · show Steps p.tables e below (T32.setTop (mkF m 247 #[.val (.long q0), .second, .val (.long q1), .second, .val (.int p2), .val (.ref b1), .val (.int (Int32.ofNat pN)), .val (.int (Int32.ofNat (own_cnt [c0, c1, c2, c3, c4, c5] pN))), .val (.ref b24), .val (.int (Int32.ofNat (own_cnt [c0, c1, c2, c3, c4, c5] pN))), .val (.int (Int32.ofNat (pN + (own_cnt [c0, c1, c2, c3, c4, c5] pN)))), .val (.int (own_ln [c0, c1, c2, c3, c4, c5] pN (1 : Int32))), .val (.int (own_col [c0, c1, c2, c3, c4, c5] pN ((1 : Int32) + (Int32.ofNat pN)))), .val (.int (Int32.ofNat (own_cnt [c0, c1, c2, c3, c4, c5] (pN + (own_cnt [c0, c1, c2, c3, c4, c5] pN))))), .val (.int (Int32.ofNat ((pN + (own_cnt [c0, c1, c2, c3, c4, c5] pN)) + (own_cnt [c0, c1, c2, c3, c4, c5] (pN + (own_cnt [c0, c1, c2, c3, c4, c5] pN)))))), .val (.int (1 : Int32))] [(.int (Int32.ofNat (own_cnt [c0, c1, c2, c3, c4, c5] pN))), (.int (Int32.ofNat (own_cnt [c0, c1, c2, c3, c4, c5] pN)))])) t
      refine XS.icmpNo X32.here hx rfl (hb hby at_247) rfl (teq rfl).2 ?_
      show Steps p.tables e below (T32.setTop (mkF m 250 #[.val (.long q0), .second, .val (.long q1), .second, .val (.int p2), .val (.ref b1), .val (.int (Int32.ofNat pN)), .val (.int (Int32.ofNat (own_cnt [c0, c1, c2, c3, c4, c5] pN))), .val (.ref b24), .val (.int (Int32.ofNat (own_cnt [c0, c1, c2, c3, c4, c5] pN))), .val (.int (Int32.ofNat (pN + (own_cnt [c0, c1, c2, c3, c4, c5] pN)))), .val (.int (own_ln [c0, c1, c2, c3, c4, c5] pN (1 : Int32))), .val (.int (own_col [c0, c1, c2, c3, c4, c5] pN ((1 : Int32) + (Int32.ofNat pN)))), .val (.int (Int32.ofNat (own_cnt [c0, c1, c2, c3, c4, c5] (pN + (own_cnt [c0, c1, c2, c3, c4, c5] pN))))), .val (.int (Int32.ofNat ((pN + (own_cnt [c0, c1, c2, c3, c4, c5] pN)) + (own_cnt [c0, c1, c2, c3, c4, c5] (pN + (own_cnt [c0, c1, c2, c3, c4, c5] pN)))))), .val (.int (1 : Int32))] [])) _
      refine XS.iload X32.here hx rfl (hb hby at_250) rfl ?_
      show Steps p.tables e below (T32.setTop (mkF m 252 #[.val (.long q0), .second, .val (.long q1), .second, .val (.int p2), .val (.ref b1), .val (.int (Int32.ofNat pN)), .val (.int (Int32.ofNat (own_cnt [c0, c1, c2, c3, c4, c5] pN))), .val (.ref b24), .val (.int (Int32.ofNat (own_cnt [c0, c1, c2, c3, c4, c5] pN))), .val (.int (Int32.ofNat (pN + (own_cnt [c0, c1, c2, c3, c4, c5] pN)))), .val (.int (own_ln [c0, c1, c2, c3, c4, c5] pN (1 : Int32))), .val (.int (own_col [c0, c1, c2, c3, c4, c5] pN ((1 : Int32) + (Int32.ofNat pN)))), .val (.int (Int32.ofNat (own_cnt [c0, c1, c2, c3, c4, c5] (pN + (own_cnt [c0, c1, c2, c3, c4, c5] pN))))), .val (.int (Int32.ofNat ((pN + (own_cnt [c0, c1, c2, c3, c4, c5] pN)) + (own_cnt [c0, c1, c2, c3, c4, c5] (pN + (own_cnt [c0, c1, c2, c3, c4, c5] pN)))))), .val (.int (1 : Int32))] [(.int (Int32.ofNat (pN + (own_cnt [c0, c1, c2, c3, c4, c5] pN))))])) _
      refine XS.iload X32.here hx rfl (hb hby at_252) rfl ?_
      show Steps p.tables e below (T32.setTop (mkF m 254 #[.val (.long q0), .second, .val (.long q1), .second, .val (.int p2), .val (.ref b1), .val (.int (Int32.ofNat pN)), .val (.int (Int32.ofNat (own_cnt [c0, c1, c2, c3, c4, c5] pN))), .val (.ref b24), .val (.int (Int32.ofNat (own_cnt [c0, c1, c2, c3, c4, c5] pN))), .val (.int (Int32.ofNat (pN + (own_cnt [c0, c1, c2, c3, c4, c5] pN)))), .val (.int (own_ln [c0, c1, c2, c3, c4, c5] pN (1 : Int32))), .val (.int (own_col [c0, c1, c2, c3, c4, c5] pN ((1 : Int32) + (Int32.ofNat pN)))), .val (.int (Int32.ofNat (own_cnt [c0, c1, c2, c3, c4, c5] (pN + (own_cnt [c0, c1, c2, c3, c4, c5] pN))))), .val (.int (Int32.ofNat ((pN + (own_cnt [c0, c1, c2, c3, c4, c5] pN)) + (own_cnt [c0, c1, c2, c3, c4, c5] (pN + (own_cnt [c0, c1, c2, c3, c4, c5] pN)))))), .val (.int (1 : Int32))] [(.int (1 : Int32)), (.int (Int32.ofNat (pN + (own_cnt [c0, c1, c2, c3, c4, c5] pN))))])) _
      refine XS.ifNo X32.here hx rfl (hb hby at_254) rfl ((if0 _ _).trans (feq (by decide)).1) ?_
      show Steps p.tables e below (T32.setTop (mkF m 257 #[.val (.long q0), .second, .val (.long q1), .second, .val (.int p2), .val (.ref b1), .val (.int (Int32.ofNat pN)), .val (.int (Int32.ofNat (own_cnt [c0, c1, c2, c3, c4, c5] pN))), .val (.ref b24), .val (.int (Int32.ofNat (own_cnt [c0, c1, c2, c3, c4, c5] pN))), .val (.int (Int32.ofNat (pN + (own_cnt [c0, c1, c2, c3, c4, c5] pN)))), .val (.int (own_ln [c0, c1, c2, c3, c4, c5] pN (1 : Int32))), .val (.int (own_col [c0, c1, c2, c3, c4, c5] pN ((1 : Int32) + (Int32.ofNat pN)))), .val (.int (Int32.ofNat (own_cnt [c0, c1, c2, c3, c4, c5] (pN + (own_cnt [c0, c1, c2, c3, c4, c5] pN))))), .val (.int (Int32.ofNat ((pN + (own_cnt [c0, c1, c2, c3, c4, c5] pN)) + (own_cnt [c0, c1, c2, c3, c4, c5] (pN + (own_cnt [c0, c1, c2, c3, c4, c5] pN)))))), .val (.int (1 : Int32))] [(.int (Int32.ofNat (pN + (own_cnt [c0, c1, c2, c3, c4, c5] pN))))])) _
      refine XS.iload X32.here hx rfl (hb hby at_257) rfl ?_
      show Steps p.tables e below (T32.setTop (mkF m 259 #[.val (.long q0), .second, .val (.long q1), .second, .val (.int p2), .val (.ref b1), .val (.int (Int32.ofNat pN)), .val (.int (Int32.ofNat (own_cnt [c0, c1, c2, c3, c4, c5] pN))), .val (.ref b24), .val (.int (Int32.ofNat (own_cnt [c0, c1, c2, c3, c4, c5] pN))), .val (.int (Int32.ofNat (pN + (own_cnt [c0, c1, c2, c3, c4, c5] pN)))), .val (.int (own_ln [c0, c1, c2, c3, c4, c5] pN (1 : Int32))), .val (.int (own_col [c0, c1, c2, c3, c4, c5] pN ((1 : Int32) + (Int32.ofNat pN)))), .val (.int (Int32.ofNat (own_cnt [c0, c1, c2, c3, c4, c5] (pN + (own_cnt [c0, c1, c2, c3, c4, c5] pN))))), .val (.int (Int32.ofNat ((pN + (own_cnt [c0, c1, c2, c3, c4, c5] pN)) + (own_cnt [c0, c1, c2, c3, c4, c5] (pN + (own_cnt [c0, c1, c2, c3, c4, c5] pN)))))), .val (.int (1 : Int32))] [(.int (Int32.ofNat pN)), (.int (Int32.ofNat (pN + (own_cnt [c0, c1, c2, c3, c4, c5] pN))))])) _
      refine XS.iload X32.here hx rfl (hb hby at_259) rfl ?_
      show Steps p.tables e below (T32.setTop (mkF m 261 #[.val (.long q0), .second, .val (.long q1), .second, .val (.int p2), .val (.ref b1), .val (.int (Int32.ofNat pN)), .val (.int (Int32.ofNat (own_cnt [c0, c1, c2, c3, c4, c5] pN))), .val (.ref b24), .val (.int (Int32.ofNat (own_cnt [c0, c1, c2, c3, c4, c5] pN))), .val (.int (Int32.ofNat (pN + (own_cnt [c0, c1, c2, c3, c4, c5] pN)))), .val (.int (own_ln [c0, c1, c2, c3, c4, c5] pN (1 : Int32))), .val (.int (own_col [c0, c1, c2, c3, c4, c5] pN ((1 : Int32) + (Int32.ofNat pN)))), .val (.int (Int32.ofNat (own_cnt [c0, c1, c2, c3, c4, c5] (pN + (own_cnt [c0, c1, c2, c3, c4, c5] pN))))), .val (.int (Int32.ofNat ((pN + (own_cnt [c0, c1, c2, c3, c4, c5] pN)) + (own_cnt [c0, c1, c2, c3, c4, c5] (pN + (own_cnt [c0, c1, c2, c3, c4, c5] pN)))))), .val (.int (1 : Int32))] [(.int (Int32.ofNat (own_cnt [c0, c1, c2, c3, c4, c5] pN))), (.int (Int32.ofNat pN)), (.int (Int32.ofNat (pN + (own_cnt [c0, c1, c2, c3, c4, c5] pN))))])) _
      refine XS.iadd X32.here hx rfl (hb hby at_261) rfl ?_
      show Steps p.tables e below (T32.setTop (mkF m 262 #[.val (.long q0), .second, .val (.long q1), .second, .val (.int p2), .val (.ref b1), .val (.int (Int32.ofNat pN)), .val (.int (Int32.ofNat (own_cnt [c0, c1, c2, c3, c4, c5] pN))), .val (.ref b24), .val (.int (Int32.ofNat (own_cnt [c0, c1, c2, c3, c4, c5] pN))), .val (.int (Int32.ofNat (pN + (own_cnt [c0, c1, c2, c3, c4, c5] pN)))), .val (.int (own_ln [c0, c1, c2, c3, c4, c5] pN (1 : Int32))), .val (.int (own_col [c0, c1, c2, c3, c4, c5] pN ((1 : Int32) + (Int32.ofNat pN)))), .val (.int (Int32.ofNat (own_cnt [c0, c1, c2, c3, c4, c5] (pN + (own_cnt [c0, c1, c2, c3, c4, c5] pN))))), .val (.int (Int32.ofNat ((pN + (own_cnt [c0, c1, c2, c3, c4, c5] pN)) + (own_cnt [c0, c1, c2, c3, c4, c5] (pN + (own_cnt [c0, c1, c2, c3, c4, c5] pN)))))), .val (.int (1 : Int32))] [(.int ((Int32.ofNat pN) + (Int32.ofNat (own_cnt [c0, c1, c2, c3, c4, c5] pN)))), (.int (Int32.ofNat (pN + (own_cnt [c0, c1, c2, c3, c4, c5] pN))))])) _
      refine XS.goto X32.here hx rfl (pc0 := 262) (pc' := 267) rfl (hb hby at_262) (by decide) (by decide) ?_
      show Steps p.tables e below (T32.setTop (mkF m 267 #[.val (.long q0), .second, .val (.long q1), .second, .val (.int p2), .val (.ref b1), .val (.int (Int32.ofNat pN)), .val (.int (Int32.ofNat (own_cnt [c0, c1, c2, c3, c4, c5] pN))), .val (.ref b24), .val (.int (Int32.ofNat (own_cnt [c0, c1, c2, c3, c4, c5] pN))), .val (.int (Int32.ofNat (pN + (own_cnt [c0, c1, c2, c3, c4, c5] pN)))), .val (.int (own_ln [c0, c1, c2, c3, c4, c5] pN (1 : Int32))), .val (.int (own_col [c0, c1, c2, c3, c4, c5] pN ((1 : Int32) + (Int32.ofNat pN)))), .val (.int (Int32.ofNat (own_cnt [c0, c1, c2, c3, c4, c5] (pN + (own_cnt [c0, c1, c2, c3, c4, c5] pN))))), .val (.int (Int32.ofNat ((pN + (own_cnt [c0, c1, c2, c3, c4, c5] pN)) + (own_cnt [c0, c1, c2, c3, c4, c5] (pN + (own_cnt [c0, c1, c2, c3, c4, c5] pN)))))), .val (.int (1 : Int32))] [(.int ((Int32.ofNat pN) + (Int32.ofNat (own_cnt [c0, c1, c2, c3, c4, c5] pN)))), (.int (Int32.ofNat (pN + (own_cnt [c0, c1, c2, c3, c4, c5] pN))))])) _
      exact k
    refine own_go (T' := T32) (g' := (mkF m 282 #[.val (.long q0), .second, .val (.long q1), .second, .val (.int p2), .val (.ref b1), .val (.int (Int32.ofNat pN)), .val (.int (Int32.ofNat (own_cnt [c0, c1, c2, c3, c4, c5] pN))), .val (.ref b24), .val (.int (Int32.ofNat (own_cnt [c0, c1, c2, c3, c4, c5] pN))), .val (.int (Int32.ofNat (pN + (own_cnt [c0, c1, c2, c3, c4, c5] pN)))), .val (.int (own_ln [c0, c1, c2, c3, c4, c5] pN (1 : Int32))), .val (.int (own_col [c0, c1, c2, c3, c4, c5] pN ((1 : Int32) + (Int32.ofNat pN)))), .val (.int (Int32.ofNat (own_cnt [c0, c1, c2, c3, c4, c5] (pN + (own_cnt [c0, c1, c2, c3, c4, c5] pN))))), .val (.int (Int32.ofNat ((pN + (own_cnt [c0, c1, c2, c3, c4, c5] pN)) + (own_cnt [c0, c1, c2, c3, c4, c5] (pN + (own_cnt [c0, c1, c2, c3, c4, c5] pN)))))), .val (.int (1 : Int32))] [(.int (2 : Int32)), (.int (own_ln [c0, c1, c2, c3, c4, c5] pN (1 : Int32)))])) (fun t k => ?_) ?_
    · show Steps p.tables e below (T32.setTop (mkF m 267 #[.val (.long q0), .second, .val (.long q1), .second, .val (.int p2), .val (.ref b1), .val (.int (Int32.ofNat pN)), .val (.int (Int32.ofNat (own_cnt [c0, c1, c2, c3, c4, c5] pN))), .val (.ref b24), .val (.int (Int32.ofNat (own_cnt [c0, c1, c2, c3, c4, c5] pN))), .val (.int (Int32.ofNat (pN + (own_cnt [c0, c1, c2, c3, c4, c5] pN)))), .val (.int (own_ln [c0, c1, c2, c3, c4, c5] pN (1 : Int32))), .val (.int (own_col [c0, c1, c2, c3, c4, c5] pN ((1 : Int32) + (Int32.ofNat pN)))), .val (.int (Int32.ofNat (own_cnt [c0, c1, c2, c3, c4, c5] (pN + (own_cnt [c0, c1, c2, c3, c4, c5] pN))))), .val (.int (Int32.ofNat ((pN + (own_cnt [c0, c1, c2, c3, c4, c5] pN)) + (own_cnt [c0, c1, c2, c3, c4, c5] (pN + (own_cnt [c0, c1, c2, c3, c4, c5] pN)))))), .val (.int (1 : Int32))] [(.int ((Int32.ofNat pN) + (Int32.ofNat (own_cnt [c0, c1, c2, c3, c4, c5] pN)))), (.int (Int32.ofNat (pN + (own_cnt [c0, c1, c2, c3, c4, c5] pN))))])) t
      refine XS.icmpNo X32.here hx rfl (hb hby at_267) rfl (teq (own_addN _ _).symm).2 ?_
      show Steps p.tables e below (T32.setTop (mkF m 270 #[.val (.long q0), .second, .val (.long q1), .second, .val (.int p2), .val (.ref b1), .val (.int (Int32.ofNat pN)), .val (.int (Int32.ofNat (own_cnt [c0, c1, c2, c3, c4, c5] pN))), .val (.ref b24), .val (.int (Int32.ofNat (own_cnt [c0, c1, c2, c3, c4, c5] pN))), .val (.int (Int32.ofNat (pN + (own_cnt [c0, c1, c2, c3, c4, c5] pN)))), .val (.int (own_ln [c0, c1, c2, c3, c4, c5] pN (1 : Int32))), .val (.int (own_col [c0, c1, c2, c3, c4, c5] pN ((1 : Int32) + (Int32.ofNat pN)))), .val (.int (Int32.ofNat (own_cnt [c0, c1, c2, c3, c4, c5] (pN + (own_cnt [c0, c1, c2, c3, c4, c5] pN))))), .val (.int (Int32.ofNat ((pN + (own_cnt [c0, c1, c2, c3, c4, c5] pN)) + (own_cnt [c0, c1, c2, c3, c4, c5] (pN + (own_cnt [c0, c1, c2, c3, c4, c5] pN)))))), .val (.int (1 : Int32))] [])) _
      refine XS.iload X32.here hx rfl (hb hby at_270) rfl ?_
      show Steps p.tables e below (T32.setTop (mkF m 272 #[.val (.long q0), .second, .val (.long q1), .second, .val (.int p2), .val (.ref b1), .val (.int (Int32.ofNat pN)), .val (.int (Int32.ofNat (own_cnt [c0, c1, c2, c3, c4, c5] pN))), .val (.ref b24), .val (.int (Int32.ofNat (own_cnt [c0, c1, c2, c3, c4, c5] pN))), .val (.int (Int32.ofNat (pN + (own_cnt [c0, c1, c2, c3, c4, c5] pN)))), .val (.int (own_ln [c0, c1, c2, c3, c4, c5] pN (1 : Int32))), .val (.int (own_col [c0, c1, c2, c3, c4, c5] pN ((1 : Int32) + (Int32.ofNat pN)))), .val (.int (Int32.ofNat (own_cnt [c0, c1, c2, c3, c4, c5] (pN + (own_cnt [c0, c1, c2, c3, c4, c5] pN))))), .val (.int (Int32.ofNat ((pN + (own_cnt [c0, c1, c2, c3, c4, c5] pN)) + (own_cnt [c0, c1, c2, c3, c4, c5] (pN + (own_cnt [c0, c1, c2, c3, c4, c5] pN)))))), .val (.int (1 : Int32))] [(.int (own_ln [c0, c1, c2, c3, c4, c5] pN (1 : Int32)))])) _
      refine XS.iload X32.here hx rfl (hb hby at_272) rfl ?_
      show Steps p.tables e below (T32.setTop (mkF m 274 #[.val (.long q0), .second, .val (.long q1), .second, .val (.int p2), .val (.ref b1), .val (.int (Int32.ofNat pN)), .val (.int (Int32.ofNat (own_cnt [c0, c1, c2, c3, c4, c5] pN))), .val (.ref b24), .val (.int (Int32.ofNat (own_cnt [c0, c1, c2, c3, c4, c5] pN))), .val (.int (Int32.ofNat (pN + (own_cnt [c0, c1, c2, c3, c4, c5] pN)))), .val (.int (own_ln [c0, c1, c2, c3, c4, c5] pN (1 : Int32))), .val (.int (own_col [c0, c1, c2, c3, c4, c5] pN ((1 : Int32) + (Int32.ofNat pN)))), .val (.int (Int32.ofNat (own_cnt [c0, c1, c2, c3, c4, c5] (pN + (own_cnt [c0, c1, c2, c3, c4, c5] pN))))), .val (.int (Int32.ofNat ((pN + (own_cnt [c0, c1, c2, c3, c4, c5] pN)) + (own_cnt [c0, c1, c2, c3, c4, c5] (pN + (own_cnt [c0, c1, c2, c3, c4, c5] pN)))))), .val (.int (1 : Int32))] [(.int (1 : Int32)), (.int (own_ln [c0, c1, c2, c3, c4, c5] pN (1 : Int32)))])) _
      refine XS.ifNo X32.here hx rfl (hb hby at_274) rfl ((if0 _ _).trans (feq (by decide)).1) ?_
      show Steps p.tables e below (T32.setTop (mkF m 277 #[.val (.long q0), .second, .val (.long q1), .second, .val (.int p2), .val (.ref b1), .val (.int (Int32.ofNat pN)), .val (.int (Int32.ofNat (own_cnt [c0, c1, c2, c3, c4, c5] pN))), .val (.ref b24), .val (.int (Int32.ofNat (own_cnt [c0, c1, c2, c3, c4, c5] pN))), .val (.int (Int32.ofNat (pN + (own_cnt [c0, c1, c2, c3, c4, c5] pN)))), .val (.int (own_ln [c0, c1, c2, c3, c4, c5] pN (1 : Int32))), .val (.int (own_col [c0, c1, c2, c3, c4, c5] pN ((1 : Int32) + (Int32.ofNat pN)))), .val (.int (Int32.ofNat (own_cnt [c0, c1, c2, c3, c4, c5] (pN + (own_cnt [c0, c1, c2, c3, c4, c5] pN))))), .val (.int (Int32.ofNat ((pN + (own_cnt [c0, c1, c2, c3, c4, c5] pN)) + (own_cnt [c0, c1, c2, c3, c4, c5] (pN + (own_cnt [c0, c1, c2, c3, c4, c5] pN)))))), .val (.int (1 : Int32))] [(.int (own_ln [c0, c1, c2, c3, c4, c5] pN (1 : Int32)))])) _
      refine XS.iconst X32.here hx rfl (hb hby at_277) ?_
      show Steps p.tables e below (T32.setTop (mkF m 278 #[.val (.long q0), .second, .val (.long q1), .second, .val (.int p2), .val (.ref b1), .val (.int (Int32.ofNat pN)), .val (.int (Int32.ofNat (own_cnt [c0, c1, c2, c3, c4, c5] pN))), .val (.ref b24), .val (.int (Int32.ofNat (own_cnt [c0, c1, c2, c3, c4, c5] pN))), .val (.int (Int32.ofNat (pN + (own_cnt [c0, c1, c2, c3, c4, c5] pN)))), .val (.int (own_ln [c0, c1, c2, c3, c4, c5] pN (1 : Int32))), .val (.int (own_col [c0, c1, c2, c3, c4, c5] pN ((1 : Int32) + (Int32.ofNat pN)))), .val (.int (Int32.ofNat (own_cnt [c0, c1, c2, c3, c4, c5] (pN + (own_cnt [c0, c1, c2, c3, c4, c5] pN))))), .val (.int (Int32.ofNat ((pN + (own_cnt [c0, c1, c2, c3, c4, c5] pN)) + (own_cnt [c0, c1, c2, c3, c4, c5] (pN + (own_cnt [c0, c1, c2, c3, c4, c5] pN)))))), .val (.int (1 : Int32))] [(.int (2 : Int32)), (.int (own_ln [c0, c1, c2, c3, c4, c5] pN (1 : Int32)))])) _
      refine XS.goto X32.here hx rfl (pc0 := 278) (pc' := 282) rfl (hb hby at_278) (by decide) (by decide) ?_
      show Steps p.tables e below (T32.setTop (mkF m 282 #[.val (.long q0), .second, .val (.long q1), .second, .val (.int p2), .val (.ref b1), .val (.int (Int32.ofNat pN)), .val (.int (Int32.ofNat (own_cnt [c0, c1, c2, c3, c4, c5] pN))), .val (.ref b24), .val (.int (Int32.ofNat (own_cnt [c0, c1, c2, c3, c4, c5] pN))), .val (.int (Int32.ofNat (pN + (own_cnt [c0, c1, c2, c3, c4, c5] pN)))), .val (.int (own_ln [c0, c1, c2, c3, c4, c5] pN (1 : Int32))), .val (.int (own_col [c0, c1, c2, c3, c4, c5] pN ((1 : Int32) + (Int32.ofNat pN)))), .val (.int (Int32.ofNat (own_cnt [c0, c1, c2, c3, c4, c5] (pN + (own_cnt [c0, c1, c2, c3, c4, c5] pN))))), .val (.int (Int32.ofNat ((pN + (own_cnt [c0, c1, c2, c3, c4, c5] pN)) + (own_cnt [c0, c1, c2, c3, c4, c5] (pN + (own_cnt [c0, c1, c2, c3, c4, c5] pN)))))), .val (.int (1 : Int32))] [(.int (2 : Int32)), (.int (own_ln [c0, c1, c2, c3, c4, c5] pN (1 : Int32)))])) _
      exact k
    refine own_go (T' := T32) (g' := (mkF m 301 #[.val (.long q0), .second, .val (.long q1), .second, .val (.int p2), .val (.ref b1), .val (.int (Int32.ofNat pN)), .val (.int (Int32.ofNat (own_cnt [c0, c1, c2, c3, c4, c5] pN))), .val (.ref b24), .val (.int (Int32.ofNat (own_cnt [c0, c1, c2, c3, c4, c5] pN))), .val (.int (Int32.ofNat (pN + (own_cnt [c0, c1, c2, c3, c4, c5] pN)))), .val (.int (own_ln [c0, c1, c2, c3, c4, c5] pN (1 : Int32))), .val (.int (own_col [c0, c1, c2, c3, c4, c5] pN ((1 : Int32) + (Int32.ofNat pN)))), .val (.int (Int32.ofNat (own_cnt [c0, c1, c2, c3, c4, c5] (pN + (own_cnt [c0, c1, c2, c3, c4, c5] pN))))), .val (.int (Int32.ofNat ((pN + (own_cnt [c0, c1, c2, c3, c4, c5] pN)) + (own_cnt [c0, c1, c2, c3, c4, c5] (pN + (own_cnt [c0, c1, c2, c3, c4, c5] pN)))))), .val (.int (1 : Int32))] [(.int (Int32.ofNat (own_cnt [c0, c1, c2, c3, c4, c5] pN))), (.int (own_col [c0, c1, c2, c3, c4, c5] pN ((1 : Int32) + (Int32.ofNat pN))))])) (fun t k => ?_) ?_
    · show Steps p.tables e below (T32.setTop (mkF m 282 #[.val (.long q0), .second, .val (.long q1), .second, .val (.int p2), .val (.ref b1), .val (.int (Int32.ofNat pN)), .val (.int (Int32.ofNat (own_cnt [c0, c1, c2, c3, c4, c5] pN))), .val (.ref b24), .val (.int (Int32.ofNat (own_cnt [c0, c1, c2, c3, c4, c5] pN))), .val (.int (Int32.ofNat (pN + (own_cnt [c0, c1, c2, c3, c4, c5] pN)))), .val (.int (own_ln [c0, c1, c2, c3, c4, c5] pN (1 : Int32))), .val (.int (own_col [c0, c1, c2, c3, c4, c5] pN ((1 : Int32) + (Int32.ofNat pN)))), .val (.int (Int32.ofNat (own_cnt [c0, c1, c2, c3, c4, c5] (pN + (own_cnt [c0, c1, c2, c3, c4, c5] pN))))), .val (.int (Int32.ofNat ((pN + (own_cnt [c0, c1, c2, c3, c4, c5] pN)) + (own_cnt [c0, c1, c2, c3, c4, c5] (pN + (own_cnt [c0, c1, c2, c3, c4, c5] pN)))))), .val (.int (1 : Int32))] [(.int (2 : Int32)), (.int (own_ln [c0, c1, c2, c3, c4, c5] pN (1 : Int32)))])) t
      refine XS.icmpNo X32.here hx rfl (hb hby at_282) rfl (teq (by unfold own_ln; rw [if_neg hcz]; rfl)).2 ?_
      show Steps p.tables e below (T32.setTop (mkF m 285 #[.val (.long q0), .second, .val (.long q1), .second, .val (.int p2), .val (.ref b1), .val (.int (Int32.ofNat pN)), .val (.int (Int32.ofNat (own_cnt [c0, c1, c2, c3, c4, c5] pN))), .val (.ref b24), .val (.int (Int32.ofNat (own_cnt [c0, c1, c2, c3, c4, c5] pN))), .val (.int (Int32.ofNat (pN + (own_cnt [c0, c1, c2, c3, c4, c5] pN)))), .val (.int (own_ln [c0, c1, c2, c3, c4, c5] pN (1 : Int32))), .val (.int (own_col [c0, c1, c2, c3, c4, c5] pN ((1 : Int32) + (Int32.ofNat pN)))), .val (.int (Int32.ofNat (own_cnt [c0, c1, c2, c3, c4, c5] (pN + (own_cnt [c0, c1, c2, c3, c4, c5] pN))))), .val (.int (Int32.ofNat ((pN + (own_cnt [c0, c1, c2, c3, c4, c5] pN)) + (own_cnt [c0, c1, c2, c3, c4, c5] (pN + (own_cnt [c0, c1, c2, c3, c4, c5] pN)))))), .val (.int (1 : Int32))] [])) _
      refine XS.iload X32.here hx rfl (hb hby at_285) rfl ?_
      show Steps p.tables e below (T32.setTop (mkF m 287 #[.val (.long q0), .second, .val (.long q1), .second, .val (.int p2), .val (.ref b1), .val (.int (Int32.ofNat pN)), .val (.int (Int32.ofNat (own_cnt [c0, c1, c2, c3, c4, c5] pN))), .val (.ref b24), .val (.int (Int32.ofNat (own_cnt [c0, c1, c2, c3, c4, c5] pN))), .val (.int (Int32.ofNat (pN + (own_cnt [c0, c1, c2, c3, c4, c5] pN)))), .val (.int (own_ln [c0, c1, c2, c3, c4, c5] pN (1 : Int32))), .val (.int (own_col [c0, c1, c2, c3, c4, c5] pN ((1 : Int32) + (Int32.ofNat pN)))), .val (.int (Int32.ofNat (own_cnt [c0, c1, c2, c3, c4, c5] (pN + (own_cnt [c0, c1, c2, c3, c4, c5] pN))))), .val (.int (Int32.ofNat ((pN + (own_cnt [c0, c1, c2, c3, c4, c5] pN)) + (own_cnt [c0, c1, c2, c3, c4, c5] (pN + (own_cnt [c0, c1, c2, c3, c4, c5] pN)))))), .val (.int (1 : Int32))] [(.int (own_col [c0, c1, c2, c3, c4, c5] pN ((1 : Int32) + (Int32.ofNat pN))))])) _
      refine XS.iload X32.here hx rfl (hb hby at_287) rfl ?_
      show Steps p.tables e below (T32.setTop (mkF m 289 #[.val (.long q0), .second, .val (.long q1), .second, .val (.int p2), .val (.ref b1), .val (.int (Int32.ofNat pN)), .val (.int (Int32.ofNat (own_cnt [c0, c1, c2, c3, c4, c5] pN))), .val (.ref b24), .val (.int (Int32.ofNat (own_cnt [c0, c1, c2, c3, c4, c5] pN))), .val (.int (Int32.ofNat (pN + (own_cnt [c0, c1, c2, c3, c4, c5] pN)))), .val (.int (own_ln [c0, c1, c2, c3, c4, c5] pN (1 : Int32))), .val (.int (own_col [c0, c1, c2, c3, c4, c5] pN ((1 : Int32) + (Int32.ofNat pN)))), .val (.int (Int32.ofNat (own_cnt [c0, c1, c2, c3, c4, c5] (pN + (own_cnt [c0, c1, c2, c3, c4, c5] pN))))), .val (.int (Int32.ofNat ((pN + (own_cnt [c0, c1, c2, c3, c4, c5] pN)) + (own_cnt [c0, c1, c2, c3, c4, c5] (pN + (own_cnt [c0, c1, c2, c3, c4, c5] pN)))))), .val (.int (1 : Int32))] [(.int (1 : Int32)), (.int (own_col [c0, c1, c2, c3, c4, c5] pN ((1 : Int32) + (Int32.ofNat pN))))])) _
      refine XS.ifNo X32.here hx rfl (hb hby at_289) rfl ((if0 _ _).trans (feq (by decide)).1) ?_
      show Steps p.tables e below (T32.setTop (mkF m 292 #[.val (.long q0), .second, .val (.long q1), .second, .val (.int p2), .val (.ref b1), .val (.int (Int32.ofNat pN)), .val (.int (Int32.ofNat (own_cnt [c0, c1, c2, c3, c4, c5] pN))), .val (.ref b24), .val (.int (Int32.ofNat (own_cnt [c0, c1, c2, c3, c4, c5] pN))), .val (.int (Int32.ofNat (pN + (own_cnt [c0, c1, c2, c3, c4, c5] pN)))), .val (.int (own_ln [c0, c1, c2, c3, c4, c5] pN (1 : Int32))), .val (.int (own_col [c0, c1, c2, c3, c4, c5] pN ((1 : Int32) + (Int32.ofNat pN)))), .val (.int (Int32.ofNat (own_cnt [c0, c1, c2, c3, c4, c5] (pN + (own_cnt [c0, c1, c2, c3, c4, c5] pN))))), .val (.int (Int32.ofNat ((pN + (own_cnt [c0, c1, c2, c3, c4, c5] pN)) + (own_cnt [c0, c1, c2, c3, c4, c5] (pN + (own_cnt [c0, c1, c2, c3, c4, c5] pN)))))), .val (.int (1 : Int32))] [(.int (own_col [c0, c1, c2, c3, c4, c5] pN ((1 : Int32) + (Int32.ofNat pN))))])) _
      refine XS.iload X32.here hx rfl (hb hby at_292) rfl ?_
      show Steps p.tables e below (T32.setTop (mkF m 294 #[.val (.long q0), .second, .val (.long q1), .second, .val (.int p2), .val (.ref b1), .val (.int (Int32.ofNat pN)), .val (.int (Int32.ofNat (own_cnt [c0, c1, c2, c3, c4, c5] pN))), .val (.ref b24), .val (.int (Int32.ofNat (own_cnt [c0, c1, c2, c3, c4, c5] pN))), .val (.int (Int32.ofNat (pN + (own_cnt [c0, c1, c2, c3, c4, c5] pN)))), .val (.int (own_ln [c0, c1, c2, c3, c4, c5] pN (1 : Int32))), .val (.int (own_col [c0, c1, c2, c3, c4, c5] pN ((1 : Int32) + (Int32.ofNat pN)))), .val (.int (Int32.ofNat (own_cnt [c0, c1, c2, c3, c4, c5] (pN + (own_cnt [c0, c1, c2, c3, c4, c5] pN))))), .val (.int (Int32.ofNat ((pN + (own_cnt [c0, c1, c2, c3, c4, c5] pN)) + (own_cnt [c0, c1, c2, c3, c4, c5] (pN + (own_cnt [c0, c1, c2, c3, c4, c5] pN)))))), .val (.int (1 : Int32))] [(.int (Int32.ofNat (own_cnt [c0, c1, c2, c3, c4, c5] pN))), (.int (own_col [c0, c1, c2, c3, c4, c5] pN ((1 : Int32) + (Int32.ofNat pN))))])) _
      refine XS.goto X32.here hx rfl (pc0 := 294) (pc' := 301) rfl (hb hby at_294) (by decide) (by decide) ?_
      show Steps p.tables e below (T32.setTop (mkF m 301 #[.val (.long q0), .second, .val (.long q1), .second, .val (.int p2), .val (.ref b1), .val (.int (Int32.ofNat pN)), .val (.int (Int32.ofNat (own_cnt [c0, c1, c2, c3, c4, c5] pN))), .val (.ref b24), .val (.int (Int32.ofNat (own_cnt [c0, c1, c2, c3, c4, c5] pN))), .val (.int (Int32.ofNat (pN + (own_cnt [c0, c1, c2, c3, c4, c5] pN)))), .val (.int (own_ln [c0, c1, c2, c3, c4, c5] pN (1 : Int32))), .val (.int (own_col [c0, c1, c2, c3, c4, c5] pN ((1 : Int32) + (Int32.ofNat pN)))), .val (.int (Int32.ofNat (own_cnt [c0, c1, c2, c3, c4, c5] (pN + (own_cnt [c0, c1, c2, c3, c4, c5] pN))))), .val (.int (Int32.ofNat ((pN + (own_cnt [c0, c1, c2, c3, c4, c5] pN)) + (own_cnt [c0, c1, c2, c3, c4, c5] (pN + (own_cnt [c0, c1, c2, c3, c4, c5] pN)))))), .val (.int (1 : Int32))] [(.int (Int32.ofNat (own_cnt [c0, c1, c2, c3, c4, c5] pN))), (.int (own_col [c0, c1, c2, c3, c4, c5] pN ((1 : Int32) + (Int32.ofNat pN))))])) _
      exact k
    refine own_go (T' := T32) (g' := (mkF m 306 #[.val (.long q0), .second, .val (.long q1), .second, .val (.int p2), .val (.ref b1), .val (.int (Int32.ofNat pN)), .val (.int (Int32.ofNat (own_cnt [c0, c1, c2, c3, c4, c5] pN))), .val (.ref b24), .val (.int (Int32.ofNat (own_cnt [c0, c1, c2, c3, c4, c5] pN))), .val (.int (Int32.ofNat (pN + (own_cnt [c0, c1, c2, c3, c4, c5] pN)))), .val (.int (own_ln [c0, c1, c2, c3, c4, c5] pN (1 : Int32))), .val (.int (own_col [c0, c1, c2, c3, c4, c5] pN ((1 : Int32) + (Int32.ofNat pN)))), .val (.int (Int32.ofNat (own_cnt [c0, c1, c2, c3, c4, c5] (pN + (own_cnt [c0, c1, c2, c3, c4, c5] pN))))), .val (.int (Int32.ofNat ((pN + (own_cnt [c0, c1, c2, c3, c4, c5] pN)) + (own_cnt [c0, c1, c2, c3, c4, c5] (pN + (own_cnt [c0, c1, c2, c3, c4, c5] pN)))))), .val (.int (1 : Int32))] [(.int (Int32.ofNat (own_cnt [c0, c1, c2, c3, c4, c5] (pN + (own_cnt [c0, c1, c2, c3, c4, c5] pN)))))])) (fun t k => ?_) ?_
    · show Steps p.tables e below (T32.setTop (mkF m 301 #[.val (.long q0), .second, .val (.long q1), .second, .val (.int p2), .val (.ref b1), .val (.int (Int32.ofNat pN)), .val (.int (Int32.ofNat (own_cnt [c0, c1, c2, c3, c4, c5] pN))), .val (.ref b24), .val (.int (Int32.ofNat (own_cnt [c0, c1, c2, c3, c4, c5] pN))), .val (.int (Int32.ofNat (pN + (own_cnt [c0, c1, c2, c3, c4, c5] pN)))), .val (.int (own_ln [c0, c1, c2, c3, c4, c5] pN (1 : Int32))), .val (.int (own_col [c0, c1, c2, c3, c4, c5] pN ((1 : Int32) + (Int32.ofNat pN)))), .val (.int (Int32.ofNat (own_cnt [c0, c1, c2, c3, c4, c5] (pN + (own_cnt [c0, c1, c2, c3, c4, c5] pN))))), .val (.int (Int32.ofNat ((pN + (own_cnt [c0, c1, c2, c3, c4, c5] pN)) + (own_cnt [c0, c1, c2, c3, c4, c5] (pN + (own_cnt [c0, c1, c2, c3, c4, c5] pN)))))), .val (.int (1 : Int32))] [(.int (Int32.ofNat (own_cnt [c0, c1, c2, c3, c4, c5] pN))), (.int (own_col [c0, c1, c2, c3, c4, c5] pN ((1 : Int32) + (Int32.ofNat pN))))])) t
      refine XS.icmpNo X32.here hx rfl (hb hby at_301) rfl (teq (by unfold own_col; rw [if_neg hcz])).2 ?_
      show Steps p.tables e below (T32.setTop (mkF m 304 #[.val (.long q0), .second, .val (.long q1), .second, .val (.int p2), .val (.ref b1), .val (.int (Int32.ofNat pN)), .val (.int (Int32.ofNat (own_cnt [c0, c1, c2, c3, c4, c5] pN))), .val (.ref b24), .val (.int (Int32.ofNat (own_cnt [c0, c1, c2, c3, c4, c5] pN))), .val (.int (Int32.ofNat (pN + (own_cnt [c0, c1, c2, c3, c4, c5] pN)))), .val (.int (own_ln [c0, c1, c2, c3, c4, c5] pN (1 : Int32))), .val (.int (own_col [c0, c1, c2, c3, c4, c5] pN ((1 : Int32) + (Int32.ofNat pN)))), .val (.int (Int32.ofNat (own_cnt [c0, c1, c2, c3, c4, c5] (pN + (own_cnt [c0, c1, c2, c3, c4, c5] pN))))), .val (.int (Int32.ofNat ((pN + (own_cnt [c0, c1, c2, c3, c4, c5] pN)) + (own_cnt [c0, c1, c2, c3, c4, c5] (pN + (own_cnt [c0, c1, c2, c3, c4, c5] pN)))))), .val (.int (1 : Int32))] [])) _
      refine XS.iload X32.here hx rfl (hb hby at_304) rfl ?_
      show Steps p.tables e below (T32.setTop (mkF m 306 #[.val (.long q0), .second, .val (.long q1), .second, .val (.int p2), .val (.ref b1), .val (.int (Int32.ofNat pN)), .val (.int (Int32.ofNat (own_cnt [c0, c1, c2, c3, c4, c5] pN))), .val (.ref b24), .val (.int (Int32.ofNat (own_cnt [c0, c1, c2, c3, c4, c5] pN))), .val (.int (Int32.ofNat (pN + (own_cnt [c0, c1, c2, c3, c4, c5] pN)))), .val (.int (own_ln [c0, c1, c2, c3, c4, c5] pN (1 : Int32))), .val (.int (own_col [c0, c1, c2, c3, c4, c5] pN ((1 : Int32) + (Int32.ofNat pN)))), .val (.int (Int32.ofNat (own_cnt [c0, c1, c2, c3, c4, c5] (pN + (own_cnt [c0, c1, c2, c3, c4, c5] pN))))), .val (.int (Int32.ofNat ((pN + (own_cnt [c0, c1, c2, c3, c4, c5] pN)) + (own_cnt [c0, c1, c2, c3, c4, c5] (pN + (own_cnt [c0, c1, c2, c3, c4, c5] pN)))))), .val (.int (1 : Int32))] [(.int (Int32.ofNat (own_cnt [c0, c1, c2, c3, c4, c5] (pN + (own_cnt [c0, c1, c2, c3, c4, c5] pN)))))])) _
      exact k
    refine own_go (T' := T32) (g' := (mkF m 313 #[.val (.long q0), .second, .val (.long q1), .second, .val (.int p2), .val (.ref b1), .val (.int (Int32.ofNat pN)), .val (.int (Int32.ofNat (own_cnt [c0, c1, c2, c3, c4, c5] pN))), .val (.ref b24), .val (.int (Int32.ofNat (own_cnt [c0, c1, c2, c3, c4, c5] pN))), .val (.int (Int32.ofNat (pN + (own_cnt [c0, c1, c2, c3, c4, c5] pN)))), .val (.int (own_ln [c0, c1, c2, c3, c4, c5] pN (1 : Int32))), .val (.int (own_col [c0, c1, c2, c3, c4, c5] pN ((1 : Int32) + (Int32.ofNat pN)))), .val (.int (Int32.ofNat (own_cnt [c0, c1, c2, c3, c4, c5] (pN + (own_cnt [c0, c1, c2, c3, c4, c5] pN))))), .val (.int (Int32.ofNat ((pN + (own_cnt [c0, c1, c2, c3, c4, c5] pN)) + (own_cnt [c0, c1, c2, c3, c4, c5] (pN + (own_cnt [c0, c1, c2, c3, c4, c5] pN)))))), .val (.int (1 : Int32))] [(.int (Int32.ofNat (pN + (own_cnt [c0, c1, c2, c3, c4, c5] pN)))), (.int (Int32.ofNat ((pN + (own_cnt [c0, c1, c2, c3, c4, c5] pN)) + (own_cnt [c0, c1, c2, c3, c4, c5] (pN + (own_cnt [c0, c1, c2, c3, c4, c5] pN))))))])) (fun t k => ?_) ?_
    · show Steps p.tables e below (T32.setTop (mkF m 306 #[.val (.long q0), .second, .val (.long q1), .second, .val (.int p2), .val (.ref b1), .val (.int (Int32.ofNat pN)), .val (.int (Int32.ofNat (own_cnt [c0, c1, c2, c3, c4, c5] pN))), .val (.ref b24), .val (.int (Int32.ofNat (own_cnt [c0, c1, c2, c3, c4, c5] pN))), .val (.int (Int32.ofNat (pN + (own_cnt [c0, c1, c2, c3, c4, c5] pN)))), .val (.int (own_ln [c0, c1, c2, c3, c4, c5] pN (1 : Int32))), .val (.int (own_col [c0, c1, c2, c3, c4, c5] pN ((1 : Int32) + (Int32.ofNat pN)))), .val (.int (Int32.ofNat (own_cnt [c0, c1, c2, c3, c4, c5] (pN + (own_cnt [c0, c1, c2, c3, c4, c5] pN))))), .val (.int (Int32.ofNat ((pN + (own_cnt [c0, c1, c2, c3, c4, c5] pN)) + (own_cnt [c0, c1, c2, c3, c4, c5] (pN + (own_cnt [c0, c1, c2, c3, c4, c5] pN)))))), .val (.int (1 : Int32))] [(.int (Int32.ofNat (own_cnt [c0, c1, c2, c3, c4, c5] (pN + (own_cnt [c0, c1, c2, c3, c4, c5] pN)))))])) t
      refine XS.ifNo X32.here hx rfl (hb hby at_306) rfl ((if0 _ _).trans (teq (by rw [hag]; rfl)).2) ?_
      show Steps p.tables e below (T32.setTop (mkF m 309 #[.val (.long q0), .second, .val (.long q1), .second, .val (.int p2), .val (.ref b1), .val (.int (Int32.ofNat pN)), .val (.int (Int32.ofNat (own_cnt [c0, c1, c2, c3, c4, c5] pN))), .val (.ref b24), .val (.int (Int32.ofNat (own_cnt [c0, c1, c2, c3, c4, c5] pN))), .val (.int (Int32.ofNat (pN + (own_cnt [c0, c1, c2, c3, c4, c5] pN)))), .val (.int (own_ln [c0, c1, c2, c3, c4, c5] pN (1 : Int32))), .val (.int (own_col [c0, c1, c2, c3, c4, c5] pN ((1 : Int32) + (Int32.ofNat pN)))), .val (.int (Int32.ofNat (own_cnt [c0, c1, c2, c3, c4, c5] (pN + (own_cnt [c0, c1, c2, c3, c4, c5] pN))))), .val (.int (Int32.ofNat ((pN + (own_cnt [c0, c1, c2, c3, c4, c5] pN)) + (own_cnt [c0, c1, c2, c3, c4, c5] (pN + (own_cnt [c0, c1, c2, c3, c4, c5] pN)))))), .val (.int (1 : Int32))] [])) _
      refine XS.iload X32.here hx rfl (hb hby at_309) rfl ?_
      show Steps p.tables e below (T32.setTop (mkF m 311 #[.val (.long q0), .second, .val (.long q1), .second, .val (.int p2), .val (.ref b1), .val (.int (Int32.ofNat pN)), .val (.int (Int32.ofNat (own_cnt [c0, c1, c2, c3, c4, c5] pN))), .val (.ref b24), .val (.int (Int32.ofNat (own_cnt [c0, c1, c2, c3, c4, c5] pN))), .val (.int (Int32.ofNat (pN + (own_cnt [c0, c1, c2, c3, c4, c5] pN)))), .val (.int (own_ln [c0, c1, c2, c3, c4, c5] pN (1 : Int32))), .val (.int (own_col [c0, c1, c2, c3, c4, c5] pN ((1 : Int32) + (Int32.ofNat pN)))), .val (.int (Int32.ofNat (own_cnt [c0, c1, c2, c3, c4, c5] (pN + (own_cnt [c0, c1, c2, c3, c4, c5] pN))))), .val (.int (Int32.ofNat ((pN + (own_cnt [c0, c1, c2, c3, c4, c5] pN)) + (own_cnt [c0, c1, c2, c3, c4, c5] (pN + (own_cnt [c0, c1, c2, c3, c4, c5] pN)))))), .val (.int (1 : Int32))] [(.int (Int32.ofNat ((pN + (own_cnt [c0, c1, c2, c3, c4, c5] pN)) + (own_cnt [c0, c1, c2, c3, c4, c5] (pN + (own_cnt [c0, c1, c2, c3, c4, c5] pN))))))])) _
      refine XS.iload X32.here hx rfl (hb hby at_311) rfl ?_
      show Steps p.tables e below (T32.setTop (mkF m 313 #[.val (.long q0), .second, .val (.long q1), .second, .val (.int p2), .val (.ref b1), .val (.int (Int32.ofNat pN)), .val (.int (Int32.ofNat (own_cnt [c0, c1, c2, c3, c4, c5] pN))), .val (.ref b24), .val (.int (Int32.ofNat (own_cnt [c0, c1, c2, c3, c4, c5] pN))), .val (.int (Int32.ofNat (pN + (own_cnt [c0, c1, c2, c3, c4, c5] pN)))), .val (.int (own_ln [c0, c1, c2, c3, c4, c5] pN (1 : Int32))), .val (.int (own_col [c0, c1, c2, c3, c4, c5] pN ((1 : Int32) + (Int32.ofNat pN)))), .val (.int (Int32.ofNat (own_cnt [c0, c1, c2, c3, c4, c5] (pN + (own_cnt [c0, c1, c2, c3, c4, c5] pN))))), .val (.int (Int32.ofNat ((pN + (own_cnt [c0, c1, c2, c3, c4, c5] pN)) + (own_cnt [c0, c1, c2, c3, c4, c5] (pN + (own_cnt [c0, c1, c2, c3, c4, c5] pN)))))), .val (.int (1 : Int32))] [(.int (Int32.ofNat (pN + (own_cnt [c0, c1, c2, c3, c4, c5] pN)))), (.int (Int32.ofNat ((pN + (own_cnt [c0, c1, c2, c3, c4, c5] pN)) + (own_cnt [c0, c1, c2, c3, c4, c5] (pN + (own_cnt [c0, c1, c2, c3, c4, c5] pN))))))])) _
      exact k
    refine own_go (T' := T32) (g' := (mkF m 321 #[.val (.long q0), .second, .val (.long q1), .second, .val (.int p2), .val (.ref b1), .val (.int (Int32.ofNat pN)), .val (.int (Int32.ofNat (own_cnt [c0, c1, c2, c3, c4, c5] pN))), .val (.ref b24), .val (.int (Int32.ofNat (own_cnt [c0, c1, c2, c3, c4, c5] pN))), .val (.int (Int32.ofNat (pN + (own_cnt [c0, c1, c2, c3, c4, c5] pN)))), .val (.int (own_ln [c0, c1, c2, c3, c4, c5] pN (1 : Int32))), .val (.int (own_col [c0, c1, c2, c3, c4, c5] pN ((1 : Int32) + (Int32.ofNat pN)))), .val (.int (Int32.ofNat (own_cnt [c0, c1, c2, c3, c4, c5] (pN + (own_cnt [c0, c1, c2, c3, c4, c5] pN))))), .val (.int (Int32.ofNat ((pN + (own_cnt [c0, c1, c2, c3, c4, c5] pN)) + (own_cnt [c0, c1, c2, c3, c4, c5] (pN + (own_cnt [c0, c1, c2, c3, c4, c5] pN)))))), .val (.int (1 : Int32))] [(.int (1 : Int32))])) (fun t k => ?_) ?_
    · show Steps p.tables e below (T32.setTop (mkF m 313 #[.val (.long q0), .second, .val (.long q1), .second, .val (.int p2), .val (.ref b1), .val (.int (Int32.ofNat pN)), .val (.int (Int32.ofNat (own_cnt [c0, c1, c2, c3, c4, c5] pN))), .val (.ref b24), .val (.int (Int32.ofNat (own_cnt [c0, c1, c2, c3, c4, c5] pN))), .val (.int (Int32.ofNat (pN + (own_cnt [c0, c1, c2, c3, c4, c5] pN)))), .val (.int (own_ln [c0, c1, c2, c3, c4, c5] pN (1 : Int32))), .val (.int (own_col [c0, c1, c2, c3, c4, c5] pN ((1 : Int32) + (Int32.ofNat pN)))), .val (.int (Int32.ofNat (own_cnt [c0, c1, c2, c3, c4, c5] (pN + (own_cnt [c0, c1, c2, c3, c4, c5] pN))))), .val (.int (Int32.ofNat ((pN + (own_cnt [c0, c1, c2, c3, c4, c5] pN)) + (own_cnt [c0, c1, c2, c3, c4, c5] (pN + (own_cnt [c0, c1, c2, c3, c4, c5] pN)))))), .val (.int (1 : Int32))] [(.int (Int32.ofNat (pN + (own_cnt [c0, c1, c2, c3, c4, c5] pN)))), (.int (Int32.ofNat ((pN + (own_cnt [c0, c1, c2, c3, c4, c5] pN)) + (own_cnt [c0, c1, c2, c3, c4, c5] (pN + (own_cnt [c0, c1, c2, c3, c4, c5] pN))))))])) t
      refine XS.icmpNo X32.here hx rfl (hb hby at_313) rfl (teq (by rw [hag]; rfl)).2 ?_
      show Steps p.tables e below (T32.setTop (mkF m 316 #[.val (.long q0), .second, .val (.long q1), .second, .val (.int p2), .val (.ref b1), .val (.int (Int32.ofNat pN)), .val (.int (Int32.ofNat (own_cnt [c0, c1, c2, c3, c4, c5] pN))), .val (.ref b24), .val (.int (Int32.ofNat (own_cnt [c0, c1, c2, c3, c4, c5] pN))), .val (.int (Int32.ofNat (pN + (own_cnt [c0, c1, c2, c3, c4, c5] pN)))), .val (.int (own_ln [c0, c1, c2, c3, c4, c5] pN (1 : Int32))), .val (.int (own_col [c0, c1, c2, c3, c4, c5] pN ((1 : Int32) + (Int32.ofNat pN)))), .val (.int (Int32.ofNat (own_cnt [c0, c1, c2, c3, c4, c5] (pN + (own_cnt [c0, c1, c2, c3, c4, c5] pN))))), .val (.int (Int32.ofNat ((pN + (own_cnt [c0, c1, c2, c3, c4, c5] pN)) + (own_cnt [c0, c1, c2, c3, c4, c5] (pN + (own_cnt [c0, c1, c2, c3, c4, c5] pN)))))), .val (.int (1 : Int32))] [])) _
      refine XS.iconst X32.here hx rfl (hb hby at_316) ?_
      show Steps p.tables e below (T32.setTop (mkF m 317 #[.val (.long q0), .second, .val (.long q1), .second, .val (.int p2), .val (.ref b1), .val (.int (Int32.ofNat pN)), .val (.int (Int32.ofNat (own_cnt [c0, c1, c2, c3, c4, c5] pN))), .val (.ref b24), .val (.int (Int32.ofNat (own_cnt [c0, c1, c2, c3, c4, c5] pN))), .val (.int (Int32.ofNat (pN + (own_cnt [c0, c1, c2, c3, c4, c5] pN)))), .val (.int (own_ln [c0, c1, c2, c3, c4, c5] pN (1 : Int32))), .val (.int (own_col [c0, c1, c2, c3, c4, c5] pN ((1 : Int32) + (Int32.ofNat pN)))), .val (.int (Int32.ofNat (own_cnt [c0, c1, c2, c3, c4, c5] (pN + (own_cnt [c0, c1, c2, c3, c4, c5] pN))))), .val (.int (Int32.ofNat ((pN + (own_cnt [c0, c1, c2, c3, c4, c5] pN)) + (own_cnt [c0, c1, c2, c3, c4, c5] (pN + (own_cnt [c0, c1, c2, c3, c4, c5] pN)))))), .val (.int (1 : Int32))] [(.int (1 : Int32))])) _
      refine XS.goto X32.here hx rfl (pc0 := 317) (pc' := 321) rfl (hb hby at_317) (by decide) (by decide) ?_
      show Steps p.tables e below (T32.setTop (mkF m 321 #[.val (.long q0), .second, .val (.long q1), .second, .val (.int p2), .val (.ref b1), .val (.int (Int32.ofNat pN)), .val (.int (Int32.ofNat (own_cnt [c0, c1, c2, c3, c4, c5] pN))), .val (.ref b24), .val (.int (Int32.ofNat (own_cnt [c0, c1, c2, c3, c4, c5] pN))), .val (.int (Int32.ofNat (pN + (own_cnt [c0, c1, c2, c3, c4, c5] pN)))), .val (.int (own_ln [c0, c1, c2, c3, c4, c5] pN (1 : Int32))), .val (.int (own_col [c0, c1, c2, c3, c4, c5] pN ((1 : Int32) + (Int32.ofNat pN)))), .val (.int (Int32.ofNat (own_cnt [c0, c1, c2, c3, c4, c5] (pN + (own_cnt [c0, c1, c2, c3, c4, c5] pN))))), .val (.int (Int32.ofNat ((pN + (own_cnt [c0, c1, c2, c3, c4, c5] pN)) + (own_cnt [c0, c1, c2, c3, c4, c5] (pN + (own_cnt [c0, c1, c2, c3, c4, c5] pN)))))), .val (.int (1 : Int32))] [(.int (1 : Int32))])) _
      exact k
    exact own_retN X32 hx hlk hret (by simp) (hb hby at_321) (by decide) (by decide) N32 ⟨rfl, trivial⟩
set_option maxRecDepth 65536 in
set_option maxHeartbeats 40000000 in
theorem comes_1 {Post : Tables → Env → Array Value → State → Outcome → State → Prop} (hpost : ∀ tb e args s v u, (limb_1_1.after args s (.returned v) u = true ∧ limb_1_2.after args s (.returned v) u = true ∧ True) → FrameEnd s (.returned v) u (Jvm.fieldLocs frame_1_writes args s ++ Jvm.arrayLocs frame_1_arrays args s ++ Jvm.staticLocs frame_1_statics s) 16 128 → Post tb e args s (.returned v) u) :
    ArmFor flags0 classFile x code maxLocals ret World_1 tables_1 room_1 Calls_1 rest_1 Pre_1 Post := by
  intro l hfl _ _ p e ha hc hk s m args below hf hA hF happ hP
  obtain ⟨hcalls, hrest, hpre⟩ := hP
  obtain ⟨-, -, -, hnamed, -, -, -, hat⟩ := (Spec.applies_iff hf).mp happ
  obtain ⟨hg, hn⟩ := and_e (Cond.before_iff.mp (show (Jvm.Cond.and given_1 narrow_1).before args s = true from hpre))
  obtain ⟨h1, g0⟩ := and_e hg
  obtain ⟨k0, g1⟩ := and_e g0
  obtain ⟨k1, g2⟩ := and_e g1
  have k2 := g2
  obtain ⟨w0, w1, w2, rfl⟩ : ∃ w0 w1 w2 : Value, args = #[w0, w1, w2] := by
    have hs : args.size = 3 := by simpa [Cond.value, given_1] using h1
    obtain ⟨L⟩ := args
    match L, hs with
    | [w0, w1, w2], _ => exact ⟨w0, w1, w2, rfl⟩
  have hw := fun d (hd : d ∈ tables_1) => atoms_spec (ws := Jvm.Cond.code x code maxLocals ret :: tables_1) hat d (List.mem_cons_of_mem _ hd)
  obtain ⟨i0, e0⟩ := isL_v k0
  obtain rfl : w0 = (.long i0) := Option.some.inj e0
  obtain ⟨i1, e1⟩ := isL_v k1
  obtain rfl : w1 = (.long i1) := Option.some.inj e1
  obtain ⟨i2, e2⟩ := is_v k2
  obtain rfl : w2 = (.int i2) := Option.some.inj e2
  obtain ⟨n, o, h1, h2, h3, v, L, rfl, ⟨N, hv⟩, hq⟩ := rm0 l s _ hw i0 i1 i2 s.heap s.heap.size (Nat.le_refl _) p e ha hc hk s m _ below hf ((Spec.applies_iff_loose hf).mp happ).1 ⟨rfl, State.Warmed39.refl s, rfl⟩ trivial
  obtain rfl : v = some (.int 1) := hv.1
  refine ⟨n, _, h1, h2, h3, hpost _ _ _ _ _ _ ⟨Cond.after_iff.mpr rfl, Cond.after_iff.mpr (eq_i res_at (Term.int_eval (1)) rfl), trivial⟩ ⟨hq.1, hq.2.1, (hq.2.2.sift fun y hy => Or.inr (N y hy)).mono (by decide) (by decide)⟩⟩
theorem main_1_1 : Claimed_1_1 := comes_1 fun _ _ _ _ _ _ h hF => ⟨h.1, hF⟩
theorem main_1_2 : Claimed_1_2 := comes_1 fun _ _ _ _ _ _ h hF => ⟨h.2.1, hF⟩
end Jvm.Pilot.@@N@@
namespace Jvm.Pilot.@@N@@
open Jvm Jvm.ClassFile Sem Op Lib Jvm.Free Jvm.Stand Jvm.Pilot.@@N@@.Jvm.D
/-! MADE BY PROGRAM (witnessworld.py) out of the Statement's table words and the real class files: 11 classes; the members and pool entries that the words name. The judged class is class 1, her method 1. -/
namespace start1
open Jvm.ClassFile
def u (s : String) : CpInfo := .utf8 (stringToUtf16 s)
/-- a pool by its gaps: so many unusable entries, then the entry; so many at the end -/
def gap : Nat → List CpInfo → List CpInfo
  | 0, r => r
  | n + 1, r => .unusable :: gap n r
def poolList (es : List (Nat × CpInfo)) (last : Nat) : List CpInfo := es.foldr (fun e r => gap e.1 (e.2 :: r)) (gap last [])
def pool (es : List (Nat × CpInfo)) (last : Nat) : Array CpInfo := ⟨poolList es last⟩
def fileOf (pool : Array CpInfo) (this : Nat) (attrs : Array Attribute := #[]) (ms : Array MethodInfo := #[]) (fl : Nat := 33) (sup : Nat := 0) (ifs : Array Nat := #[]) (fds : Array FieldInfo := #[]) : ClassFile where
  minorVersion := 0
  majorVersion := 65
  constantPool := pool
  accessFlags := fl
  thisClass := this
  superClass := sup
  interfaces := ifs
  fields := fds
  methods := ms
  attributes := attrs
def plain (name : String) (sup : Option ClassId) : Class where
  name := name
  kind := .ordinary
  loader := none
  accessFlags := 33
  super := sup
  interfaces := #[]
  cf := none
  fields := #[]
  methods := #[]
  instanceTypes := #[]
  staticTypes := #[]
  resolved := #[]
  callSites := []
  init := .initialized
  statics := none
  mirror := none

def pool0 : Array CpInfo := pool [(5, u "<init>"), (0, u "()V"), (1, .class_ 10), (1, u "java/lang/Object")] 113

def k0c0 : Code := { maxStack := 0, maxLocals := 1, code := object_method_1_code, exceptionTable := #[], attributes := #[] }
def k0m0 : Method := { name := "<init>", desc := "()V", sig := { parameters := [], returnType := none }, accessFlags := 1, code := some k0c0 }
/-- java/lang/Object -/
def k0 : Class := { plain "java/lang/Object" none with
  accessFlags := 33
  interfaces := #[]
  cf := some (fileOf pool0 8 #[] #[{ accessFlags := 1, nameIndex := 5, descriptorIndex := 6, attributes := #[] }] 33 0 #[] #[])
  fields := #[]
  methods := #[k0m0]
  instanceTypes := #[]
  staticTypes := #[]
  resolved := Array.replicate 124 none
  statics := none }

def pool1 : Array CpInfo := pool [(2, .class_ 4), (1, u "java/lang/Object"), (0, u "<init>"), (0, u "()V"), (0, .methodref 8 9), (0, .class_ 10), (0, .nameAndType 11 12), (0, u "com/example/virta/virta/InputSkipIndentationPinLaw"), (0, u "pick"), (0, u "(JI)C"), (0, .integer 2147483647), (0, .methodref 8 15), (0, .nameAndType 16 17), (0, u "adv"), (0, u "([CI)I"), (0, .class_ 19), (0, u "com/example/virta/virta/Input"), (0, .methodref 18 21), (0, .nameAndType 5 22), (0, u "([C)V"), (0, .methodref 18 24), (0, .nameAndType 25 26), (0, u "skip"), (0, u "(I)V"), (0, .methodref 18 28), (0, .nameAndType 29 30), (0, u "skipIndentation"), (0, u "()I"), (0, .methodref 18 32), (0, .nameAndType 33 30), (0, u "position"), (0, .methodref 18 35), (0, .nameAndType 36 30), (0, u "line"), (0, .methodref 18 38), (0, .nameAndType 39 30), (0, u "column"), (0, .long 2047), (1, .methodref 8 43), (0, .nameAndType 44 45), (0, u "ws"), (0, u "(C)Z"), (2, u "law"), (0, u "(JJI)Z")] 5

def k1m0 : Method := { name := "<init>", desc := "()V", sig := { parameters := [], returnType := none }, accessFlags := 1, code := none }
def k1c1 : Code := { maxStack := 5, maxLocals := 16, code := code, exceptionTable := #[], attributes := #[] }
def k1m1 : Method := { name := "law", desc := "(JJI)Z", sig := { parameters := [.long, .long, .int], returnType := some .boolean }, accessFlags := 9, code := some k1c1 }
def k1c2 : Code := { maxStack := 4, maxLocals := 6, code := method_3_code, exceptionTable := #[], attributes := #[] }
def k1m2 : Method := { name := "pick", desc := "(JI)C", sig := { parameters := [.long, .int], returnType := some .char }, accessFlags := 10, code := some k1c2 }
def k1c3 : Code := { maxStack := 2, maxLocals := 1, code := method_4_code, exceptionTable := #[], attributes := #[] }
def k1m3 : Method := { name := "ws", desc := "(C)Z", sig := { parameters := [.char], returnType := some .boolean }, accessFlags := 10, code := some k1c3 }
def k1c4 : Code := { maxStack := 2, maxLocals := 2, code := method_5_code, exceptionTable := #[], attributes := #[] }
def k1m4 : Method := { name := "adv", desc := "([CI)I", sig := { parameters := [(.array .char), .int], returnType := some .int }, accessFlags := 10, code := some k1c4 }
/-- com/example/virta/virta/InputSkipIndentationPinLaw -/
def k1 : Class := { plain "com/example/virta/virta/InputSkipIndentationPinLaw" (some 0) with
  accessFlags := 49
  interfaces := #[]
  cf := some (fileOf pool1 8 #[] #[{ accessFlags := 1, nameIndex := 5, descriptorIndex := 6, attributes := #[] }, { accessFlags := 9, nameIndex := 48, descriptorIndex := 49, attributes := #[] }, { accessFlags := 10, nameIndex := 11, descriptorIndex := 12, attributes := #[] }, { accessFlags := 10, nameIndex := 44, descriptorIndex := 45, attributes := #[] }, { accessFlags := 10, nameIndex := 16, descriptorIndex := 17, attributes := #[] }] 49 2 #[] #[])
  fields := #[]
  methods := #[k1m0, k1m1, k1m2, k1m3, k1m4]
  instanceTypes := #[]
  staticTypes := #[]
  resolved := Array.replicate 55 none
  statics := none }

def pool2 : Array CpInfo := pool [(1, .methodref 2 3), (0, .class_ 4), (0, .nameAndType 5 6), (0, u "java/lang/Object"), (0, u "<init>"), (0, u "()V"), (0, .fieldref 8 9), (0, .class_ 10), (0, .nameAndType 11 12), (0, u "com/example/virta/virta/Input"), (0, u "line"), (0, u "I"), (0, .fieldref 8 14), (0, .nameAndType 15 12), (0, u "column"), (0, .fieldref 8 17), (0, .nameAndType 18 19), (0, u "atStart"), (0, u "Z"), (0, .fieldref 8 21), (0, .nameAndType 22 23), (0, u "reader"), (0, u "Ljava/io/Reader;"), (0, .fieldref 8 25), (0, .nameAndType 26 27), (0, u "buffer"), (0, u "[C"), (0, .fieldref 8 29), (0, .nameAndType 30 31), (0, u "publicId"), (0, u "Ljava/lang/String;"), (0, .fieldref 8 33), (0, .nameAndType 34 31), (0, u "systemId"), (0, .fieldref 8 36), (0, .nameAndType 37 31), (0, u "base"), (0, .fieldref 8 39), (0, .nameAndType 40 31), (0, u "givenEncoding"), (4, .fieldref 8 46), (0, .nameAndType 47 48), (0, u "digestLanes"), (0, u "[J"), (0, .fieldref 8 50), (0, .nameAndType 51 12), (0, u "checked"), (0, .fieldref 8 53), (0, .nameAndType 54 12), (0, u "limit"), (0, .fieldref 8 56), (0, .nameAndType 57 58), (0, u "checkedSoFar"), (0, u "J"), (0, .fieldref 8 60), (0, .nameAndType 61 19), (0, u "endOfText"), (16, .fieldref 8 79), (0, .nameAndType 80 12), (0, u "position"), (13, u "digestGiven"), (0, u "Ljava/lang/Long;"), (21, u "()I"), (14, u "error"), (14, .methodref 8 148), (0, .nameAndType 149 150), (0, u "skip"), (0, u "(II)V"), (68, u "afterCarriageReturn"), (39, u "EOF"), (2, u "BUFFER_SIZE"), (1, u "BYTE_ORDER_MARK"), (0, u "C"), (0, u "EMPTY_DIGEST"), (0, u "DIGEST_PRIME"), (0, u "DIGEST_LANES"), (1, u "LONG_SPELLING"), (5, u "([C)V"), (10, u "(I)V"), (13, u "skipIndentation")] 6

def k2c0 : Code := { maxStack := 3, maxLocals := 2, code := prog_42_method_2_code, exceptionTable := #[], attributes := #[] }
def k2m0 : Method := { name := "<init>", desc := "([C)V", sig := { parameters := [(.array .char)], returnType := none }, accessFlags := 0, code := some k2c0 }
def k2c1 : Code := { maxStack := 1, maxLocals := 1, code := prog_42_method_12_code, exceptionTable := #[], attributes := #[] }
def k2m1 : Method := { name := "line", desc := "()I", sig := { parameters := [], returnType := some .int }, accessFlags := 0, code := some k2c1 }
def k2c2 : Code := { maxStack := 1, maxLocals := 1, code := prog_42_method_13_code, exceptionTable := #[], attributes := #[] }
def k2m2 : Method := { name := "column", desc := "()I", sig := { parameters := [], returnType := some .int }, accessFlags := 0, code := some k2c2 }
def k2c3 : Code := { maxStack := 3, maxLocals := 2, code := prog_42_method_19_code, exceptionTable := #[], attributes := #[] }
def k2m3 : Method := { name := "skip", desc := "(I)V", sig := { parameters := [.int], returnType := none }, accessFlags := 0, code := some k2c3 }
def k2c4 : Code := { maxStack := 3, maxLocals := 3, code := prog_42_method_20_code, exceptionTable := #[], attributes := #[] }
def k2m4 : Method := { name := "skip", desc := "(II)V", sig := { parameters := [.int, .int], returnType := none }, accessFlags := 0, code := some k2c4 }
def k2c5 : Code := { maxStack := 1, maxLocals := 1, code := prog_42_method_28_code, exceptionTable := #[], attributes := #[] }
def k2m5 : Method := { name := "position", desc := "()I", sig := { parameters := [], returnType := some .int }, accessFlags := 0, code := some k2c5 }
def k2c6 : Code := { maxStack := 3, maxLocals := 4, code := prog_42_method_32_code, exceptionTable := #[], attributes := #[] }
def k2m6 : Method := { name := "skipIndentation", desc := "()I", sig := { parameters := [], returnType := some .int }, accessFlags := 0, code := some k2c6 }
/-- com/example/virta/virta/Input -/
def k2 : Class := { plain "com/example/virta/virta/Input" (some 0) with
  accessFlags := 32
  interfaces := #[]
  cf := some (fileOf pool2 8 #[] #[{ accessFlags := 0, nameIndex := 5, descriptorIndex := 276, attributes := #[] }, { accessFlags := 0, nameIndex := 11, descriptorIndex := 117, attributes := #[] }, { accessFlags := 0, nameIndex := 15, descriptorIndex := 117, attributes := #[] }, { accessFlags := 0, nameIndex := 149, descriptorIndex := 287, attributes := #[] }, { accessFlags := 0, nameIndex := 149, descriptorIndex := 150, attributes := #[] }, { accessFlags := 0, nameIndex := 80, descriptorIndex := 117, attributes := #[] }, { accessFlags := 0, nameIndex := 301, descriptorIndex := 117, attributes := #[] }] 32 2 #[] #[{ accessFlags := 24, nameIndex := 259, descriptorIndex := 12, attributes := #[] }, { accessFlags := 26, nameIndex := 262, descriptorIndex := 12, attributes := #[] }, { accessFlags := 26, nameIndex := 264, descriptorIndex := 265, attributes := #[] }, { accessFlags := 26, nameIndex := 266, descriptorIndex := 58, attributes := #[] }, { accessFlags := 26, nameIndex := 267, descriptorIndex := 58, attributes := #[] }, { accessFlags := 26, nameIndex := 268, descriptorIndex := 12, attributes := #[] }, { accessFlags := 26, nameIndex := 270, descriptorIndex := 12, attributes := #[] }, { accessFlags := 18, nameIndex := 22, descriptorIndex := 23, attributes := #[] }, { accessFlags := 18, nameIndex := 26, descriptorIndex := 27, attributes := #[] }, { accessFlags := 18, nameIndex := 30, descriptorIndex := 31, attributes := #[] }, { accessFlags := 18, nameIndex := 34, descriptorIndex := 31, attributes := #[] }, { accessFlags := 18, nameIndex := 37, descriptorIndex := 31, attributes := #[] }, { accessFlags := 18, nameIndex := 40, descriptorIndex := 31, attributes := #[] }, { accessFlags := 18, nameIndex := 47, descriptorIndex := 48, attributes := #[] }, { accessFlags := 2, nameIndex := 80, descriptorIndex := 12, attributes := #[] }, { accessFlags := 2, nameIndex := 51, descriptorIndex := 12, attributes := #[] }, { accessFlags := 2, nameIndex := 54, descriptorIndex := 12, attributes := #[] }, { accessFlags := 2, nameIndex := 11, descriptorIndex := 12, attributes := #[] }, { accessFlags := 2, nameIndex := 15, descriptorIndex := 12, attributes := #[] }, { accessFlags := 2, nameIndex := 57, descriptorIndex := 58, attributes := #[] }, { accessFlags := 2, nameIndex := 18, descriptorIndex := 19, attributes := #[] }, { accessFlags := 2, nameIndex := 219, descriptorIndex := 19, attributes := #[] }, { accessFlags := 2, nameIndex := 61, descriptorIndex := 19, attributes := #[] }, { accessFlags := 2, nameIndex := 132, descriptorIndex := 31, attributes := #[] }, { accessFlags := 2, nameIndex := 94, descriptorIndex := 95, attributes := #[] }])
  fields := #[{ name := "EOF", type := .int, accessFlags := 24, slot := 0, constantValue := 0 }, { name := "BUFFER_SIZE", type := .int, accessFlags := 26, slot := 1, constantValue := 0 }, { name := "BYTE_ORDER_MARK", type := .char, accessFlags := 26, slot := 2, constantValue := 0 }, { name := "EMPTY_DIGEST", type := .long, accessFlags := 26, slot := 3, constantValue := 0 }, { name := "DIGEST_PRIME", type := .long, accessFlags := 26, slot := 4, constantValue := 0 }, { name := "DIGEST_LANES", type := .int, accessFlags := 26, slot := 5, constantValue := 0 }, { name := "LONG_SPELLING", type := .int, accessFlags := 26, slot := 6, constantValue := 0 }, { name := "reader", type := (.object "java/io/Reader"), accessFlags := 18, slot := 0, constantValue := 0 }, { name := "buffer", type := (.array .char), accessFlags := 18, slot := 1, constantValue := 0 }, { name := "publicId", type := (.object "java/lang/String"), accessFlags := 18, slot := 2, constantValue := 0 }, { name := "systemId", type := (.object "java/lang/String"), accessFlags := 18, slot := 3, constantValue := 0 }, { name := "base", type := (.object "java/lang/String"), accessFlags := 18, slot := 4, constantValue := 0 }, { name := "givenEncoding", type := (.object "java/lang/String"), accessFlags := 18, slot := 5, constantValue := 0 }, { name := "digestLanes", type := (.array .long), accessFlags := 18, slot := 6, constantValue := 0 }, { name := "position", type := .int, accessFlags := 2, slot := 7, constantValue := 0 }, { name := "checked", type := .int, accessFlags := 2, slot := 8, constantValue := 0 }, { name := "limit", type := .int, accessFlags := 2, slot := 9, constantValue := 0 }, { name := "line", type := .int, accessFlags := 2, slot := 10, constantValue := 0 }, { name := "column", type := .int, accessFlags := 2, slot := 11, constantValue := 0 }, { name := "checkedSoFar", type := .long, accessFlags := 2, slot := 12, constantValue := 0 }, { name := "atStart", type := .boolean, accessFlags := 2, slot := 13, constantValue := 0 }, { name := "afterCarriageReturn", type := .boolean, accessFlags := 2, slot := 14, constantValue := 0 }, { name := "endOfText", type := .boolean, accessFlags := 2, slot := 15, constantValue := 0 }, { name := "error", type := (.object "java/lang/String"), accessFlags := 2, slot := 16, constantValue := 0 }, { name := "digestGiven", type := (.object "java/lang/Long"), accessFlags := 2, slot := 17, constantValue := 0 }]
  methods := #[k2m0, k2m1, k2m2, k2m3, k2m4, k2m5, k2m6]
  instanceTypes := #[(.object "java/io/Reader"), (.array .char), (.object "java/lang/String"), (.object "java/lang/String"), (.object "java/lang/String"), (.object "java/lang/String"), (.array .long), .int, .int, .int, .int, .int, .long, .boolean, .boolean, .boolean, (.object "java/lang/String"), (.object "java/lang/Long")]
  staticTypes := #[.int, .int, .char, .long, .long, .int, .int]
  resolved := Array.replicate 308 none
  statics := none }

def pool3 : Array CpInfo := pool [(1, u "java/lang/Cloneable"), (0, .class_ 1), (0, u "java/lang/Object"), (0, .class_ 3)] 3

/-- java/lang/Cloneable -/
def k3 : Class := { plain "java/lang/Cloneable" (some 0) with
  accessFlags := 1537
  interfaces := #[]
  cf := some (fileOf pool3 2 #[] #[] 1537 4 #[] #[])
  fields := #[]
  methods := #[]
  instanceTypes := #[]
  staticTypes := #[]
  resolved := Array.replicate 8 none
  statics := none }

def pool4 : Array CpInfo := pool [(1, u "java/io/Serializable"), (0, .class_ 1), (0, u "java/lang/Object"), (0, .class_ 3)] 3

/-- java/io/Serializable -/
def k4 : Class := { plain "java/io/Serializable" (some 0) with
  accessFlags := 1537
  interfaces := #[]
  cf := some (fileOf pool4 2 #[] #[] 1537 4 #[] #[])
  fields := #[]
  methods := #[]
  instanceTypes := #[]
  staticTypes := #[]
  resolved := Array.replicate 8 none
  statics := none }

/-- the primitive byte -/
def k5 : Class := { plain "byte" none with kind := .primitive 'B', accessFlags := 0x411 }
/-- [B -/
def k6 : Class := { plain "[B" (some 0) with kind := .array 5 .byte, interfaces := #[3, 4], accessFlags := 1041 }

/-- the primitive char -/
def k7 : Class := { plain "char" none with kind := .primitive 'C', accessFlags := 0x411 }
/-- [C -/
def k8 : Class := { plain "[C" (some 0) with kind := .array 7 .char, interfaces := #[3, 4], accessFlags := 1041 }

/-- the primitive int -/
def k9 : Class := { plain "int" none with kind := .primitive 'I', accessFlags := 0x411 }
/-- [I -/
def k10 : Class := { plain "[I" (some 0) with kind := .array 9 .int, interfaces := #[3, 4], accessFlags := 1041 }

def heap : Heap := #[]
def classes : Array Class := #[k0, k1, k2, k3, k4, k5, k6, k7, k8, k9, k10]
def interned : List (Array UInt16 × Addr) := []
def slotsUsed : Nat := 0
def theMethod : MethodId := ⟨1, 1⟩
def args0 : Array Value := #[.long 5, .long 6, .int 7]
def aboutOver (below : List Frame) : State where
  vm := { classes := classes, interned := interned.toArray }
  heap := heap
  slotsUsed := slotsUsed
  threads := #[{ frames := .invoking theMethod args0 :: below }]
def below0 : List Frame := [.native { method := ⟨0, 0⟩, args := #[] }]
def about1 : State := aboutOver below0
def p0 : Program := .bare "" "" ""
def e0 : Env := launch0.env 0 0 0
theorem w_frames : about1.frames = Frame.invoking theMethod args0 :: below0 := rfl
set_option maxRecDepth 65536 in
theorem w_args : argsFit about1.vm theMethod args0 = true := by decide +kernel
set_option maxRecDepth 65536 in
theorem w_heap : heapFits about1 = true := by decide +kernel
set_option maxRecDepth 65536 in
theorem w_runnable : about1.curStatus? = some .runnable := by decide +kernel
set_option maxRecDepth 65536 in
theorem w_alone : about1.alone = true := by decide +kernel
set_option maxRecDepth 65536 in
theorem w_named : about1.methodNamed? x = some theMethod := by decide +kernel
set_option maxRecDepth 65536 in
theorem w_hears : about1.hears theMethod below0 = true := by decide +kernel
set_option maxRecDepth 65536 in
theorem w_ripe : about1.ripe theMethod args0 below0 = true := by decide +kernel
theorem w_running : about1.status = .running := rfl
set_option maxRecDepth 65536 in
theorem w_room : about1.hasRoom e0.platform room_1 = true :=
  launch0.hasRoom_least _ room_1 (by decide +kernel) (by decide +kernel) (by decide +kernel) (by decide +kernel) (by decide +kernel) (by decide +kernel)
theorem allAtoms_all (ts : List Jvm.Cond) (a : Array Jvm.Value) (st : Jvm.State) : (allAtoms ts).before a st = ts.all (fun c => c.before a st) := by
  induction ts with
  | nil => rfl
  | cons c t ih =>
    show (Jvm.Cond.and c (allAtoms t)).before a st = _
    rw [Jvm.Cond.before_and, ih, List.all_cons]
def words1 : List Jvm.Cond := Jvm.Cond.code x code maxLocals ret :: tables_1
/-- a 'code' word, met by the world's own term for the bytes: nothing is compared byte by byte -/
theorem code_word {y : MethodName} {bytes : ByteArray} {mx : Nat} {rt : Option FieldType} {a : Array Value} {s : State} {m : MethodId} {meth : Method} {c : Code} (h1 : s.methodNamed? y = some m) (h2 : s.vm.method? m = some meth) (h3 : meth.code = some c) (h4 : c.code = bytes)
    (h5 : (c.maxLocals == mx && c.exceptionTable.isEmpty && decide (c.maxStack ≤ mostOperands) && decide (meth.sig.returnType = rt) && !meth.locks && decide (parseMethodDescriptor y.desc = some meth.sig)) = true) : (Jvm.Cond.code y bytes mx rt).before a s = true := by
  simp only [Bool.and_eq_true, beq_iff_eq, Bool.not_eq_true', decide_eq_true_eq] at h5
  obtain ⟨⟨⟨⟨⟨g1, g2⟩, g3⟩, g4⟩, g5⟩, g6⟩ := h5
  simp [Cond.before, Cond.holds, Cond.value, h1, h2, h3, h4, g1, g2, g3, g4, g5, g6]
def isCode : Jvm.Cond → Bool
  | .code _ _ _ _ => true
  | _ => false
theorem all_split {L : List Jvm.Cond} {P : Jvm.Cond → Bool} (h1 : L.all (fun c => isCode c || P c) = true) (h2 : ∀ c ∈ L.filter isCode, P c = true) : L.all P = true := by
  refine List.all_eq_true.mpr fun c hc => ?_
  have h := List.all_eq_true.mp h1 c hc
  rcases Bool.eq_false_or_eq_true (isCode c) with hi | hi
  · exact h2 c (List.mem_filter.mpr ⟨hc, hi⟩)
  · simpa [hi] using h
set_option maxRecDepth 65536 in
theorem w_c0 : (Jvm.Cond.code x code maxLocals ret).before args0 about1 = true := code_word (m := ⟨1, 1⟩) (meth := k1m1) (c := k1c1) (by decide +kernel) rfl rfl rfl (by decide +kernel)
set_option maxRecDepth 65536 in
theorem w_c1 : (Jvm.Cond.code ({ cls := "com/example/virta/virta/InputSkipIndentationPinLaw", name := "pick", desc := "(JI)C" } : Jvm.MethodName) method_3_code (6 : Nat) (Option.some Jvm.ClassFile.FieldType.char)).before args0 about1 = true := code_word (m := ⟨1, 2⟩) (meth := k1m2) (c := k1c2) (by decide +kernel) rfl rfl rfl (by decide +kernel)
set_option maxRecDepth 65536 in
theorem w_c2 : (Jvm.Cond.code ({ cls := "com/example/virta/virta/Input", name := "<init>", desc := "([C)V" } : Jvm.MethodName) prog_42_method_2_code (2 : Nat) (Option.none : Option Jvm.ClassFile.FieldType)).before args0 about1 = true := code_word (m := ⟨2, 0⟩) (meth := k2m0) (c := k2c0) (by decide +kernel) rfl rfl rfl (by decide +kernel)
set_option maxRecDepth 65536 in
theorem w_c3 : (Jvm.Cond.code ({ cls := "java/lang/Object", name := "<init>", desc := "()V" } : Jvm.MethodName) object_method_1_code (1 : Nat) (Option.none : Option Jvm.ClassFile.FieldType)).before args0 about1 = true := code_word (m := ⟨0, 0⟩) (meth := k0m0) (c := k0c0) (by decide +kernel) rfl rfl rfl (by decide +kernel)
set_option maxRecDepth 65536 in
theorem w_c4 : (Jvm.Cond.code ({ cls := "com/example/virta/virta/Input", name := "skip", desc := "(I)V" } : Jvm.MethodName) prog_42_method_19_code (2 : Nat) (Option.none : Option Jvm.ClassFile.FieldType)).before args0 about1 = true := code_word (m := ⟨2, 3⟩) (meth := k2m3) (c := k2c3) (by decide +kernel) rfl rfl rfl (by decide +kernel)
set_option maxRecDepth 65536 in
theorem w_c5 : (Jvm.Cond.code ({ cls := "com/example/virta/virta/Input", name := "skip", desc := "(II)V" } : Jvm.MethodName) prog_42_method_20_code (3 : Nat) (Option.none : Option Jvm.ClassFile.FieldType)).before args0 about1 = true := code_word (m := ⟨2, 4⟩) (meth := k2m4) (c := k2c4) (by decide +kernel) rfl rfl rfl (by decide +kernel)
set_option maxRecDepth 65536 in
theorem w_c6 : (Jvm.Cond.code ({ cls := "com/example/virta/virta/Input", name := "skipIndentation", desc := "()I" } : Jvm.MethodName) prog_42_method_32_code (4 : Nat) (Option.some Jvm.ClassFile.FieldType.int)).before args0 about1 = true := code_word (m := ⟨2, 6⟩) (meth := k2m6) (c := k2c6) (by decide +kernel) rfl rfl rfl (by decide +kernel)
set_option maxRecDepth 65536 in
theorem w_c7 : (Jvm.Cond.code ({ cls := "com/example/virta/virta/Input", name := "position", desc := "()I" } : Jvm.MethodName) prog_42_method_28_code (1 : Nat) (Option.some Jvm.ClassFile.FieldType.int)).before args0 about1 = true := code_word (m := ⟨2, 5⟩) (meth := k2m5) (c := k2c5) (by decide +kernel) rfl rfl rfl (by decide +kernel)
set_option maxRecDepth 65536 in
theorem w_c8 : (Jvm.Cond.code ({ cls := "com/example/virta/virta/Input", name := "line", desc := "()I" } : Jvm.MethodName) prog_42_method_12_code (1 : Nat) (Option.some Jvm.ClassFile.FieldType.int)).before args0 about1 = true := code_word (m := ⟨2, 1⟩) (meth := k2m1) (c := k2c1) (by decide +kernel) rfl rfl rfl (by decide +kernel)
set_option maxRecDepth 65536 in
theorem w_c9 : (Jvm.Cond.code ({ cls := "com/example/virta/virta/Input", name := "column", desc := "()I" } : Jvm.MethodName) prog_42_method_13_code (1 : Nat) (Option.some Jvm.ClassFile.FieldType.int)).before args0 about1 = true := code_word (m := ⟨2, 2⟩) (meth := k2m2) (c := k2c2) (by decide +kernel) rfl rfl rfl (by decide +kernel)
set_option maxRecDepth 65536 in
theorem w_c10 : (Jvm.Cond.code ({ cls := "com/example/virta/virta/InputSkipIndentationPinLaw", name := "adv", desc := "([CI)I" } : Jvm.MethodName) method_5_code (2 : Nat) (Option.some Jvm.ClassFile.FieldType.int)).before args0 about1 = true := code_word (m := ⟨1, 4⟩) (meth := k1m4) (c := k1c4) (by decide +kernel) rfl rfl rfl (by decide +kernel)
set_option maxRecDepth 65536 in
theorem w_c11 : (Jvm.Cond.code ({ cls := "com/example/virta/virta/InputSkipIndentationPinLaw", name := "ws", desc := "(C)Z" } : Jvm.MethodName) method_4_code (1 : Nat) (Option.some Jvm.ClassFile.FieldType.boolean)).before args0 about1 = true := code_word (m := ⟨1, 3⟩) (meth := k1m3) (c := k1c3) (by decide +kernel) rfl rfl rfl (by decide +kernel)
def codes1 : List Jvm.Cond := [Jvm.Cond.code x code maxLocals ret, Jvm.Cond.code ({ cls := "com/example/virta/virta/InputSkipIndentationPinLaw", name := "pick", desc := "(JI)C" } : Jvm.MethodName) method_3_code (6 : Nat) (Option.some Jvm.ClassFile.FieldType.char), Jvm.Cond.code ({ cls := "com/example/virta/virta/Input", name := "<init>", desc := "([C)V" } : Jvm.MethodName) prog_42_method_2_code (2 : Nat) (Option.none : Option Jvm.ClassFile.FieldType), Jvm.Cond.code ({ cls := "java/lang/Object", name := "<init>", desc := "()V" } : Jvm.MethodName) object_method_1_code (1 : Nat) (Option.none : Option Jvm.ClassFile.FieldType), Jvm.Cond.code ({ cls := "com/example/virta/virta/Input", name := "skip", desc := "(I)V" } : Jvm.MethodName) prog_42_method_19_code (2 : Nat) (Option.none : Option Jvm.ClassFile.FieldType), Jvm.Cond.code ({ cls := "com/example/virta/virta/Input", name := "skip", desc := "(II)V" } : Jvm.MethodName) prog_42_method_20_code (3 : Nat) (Option.none : Option Jvm.ClassFile.FieldType), Jvm.Cond.code ({ cls := "com/example/virta/virta/Input", name := "skipIndentation", desc := "()I" } : Jvm.MethodName) prog_42_method_32_code (4 : Nat) (Option.some Jvm.ClassFile.FieldType.int), Jvm.Cond.code ({ cls := "com/example/virta/virta/Input", name := "position", desc := "()I" } : Jvm.MethodName) prog_42_method_28_code (1 : Nat) (Option.some Jvm.ClassFile.FieldType.int), Jvm.Cond.code ({ cls := "com/example/virta/virta/Input", name := "line", desc := "()I" } : Jvm.MethodName) prog_42_method_12_code (1 : Nat) (Option.some Jvm.ClassFile.FieldType.int), Jvm.Cond.code ({ cls := "com/example/virta/virta/Input", name := "column", desc := "()I" } : Jvm.MethodName) prog_42_method_13_code (1 : Nat) (Option.some Jvm.ClassFile.FieldType.int), Jvm.Cond.code ({ cls := "com/example/virta/virta/InputSkipIndentationPinLaw", name := "adv", desc := "([CI)I" } : Jvm.MethodName) method_5_code (2 : Nat) (Option.some Jvm.ClassFile.FieldType.int), Jvm.Cond.code ({ cls := "com/example/virta/virta/InputSkipIndentationPinLaw", name := "ws", desc := "(C)Z" } : Jvm.MethodName) method_4_code (1 : Nat) (Option.some Jvm.ClassFile.FieldType.boolean)]
set_option maxRecDepth 65536 in
theorem codes_eq : words1.filter isCode = codes1 := rfl
theorem w_codes : ∀ c ∈ words1.filter isCode, c.before args0 about1 = true := by
  rw [codes_eq]
  intro c hc
  simp only [codes1, List.mem_cons, List.not_mem_nil, or_false] at hc
  rcases hc with rfl | rfl | rfl | rfl | rfl | rfl | rfl | rfl | rfl | rfl | rfl | rfl
  · exact w_c0
  · exact w_c1
  · exact w_c2
  · exact w_c3
  · exact w_c4
  · exact w_c5
  · exact w_c6
  · exact w_c7
  · exact w_c8
  · exact w_c9
  · exact w_c10
  · exact w_c11
set_option maxRecDepth 65536 in
theorem w_t1 : (words1.take 24).all (fun c => isCode c || c.before args0 about1) = true := by decide +kernel
set_option maxRecDepth 65536 in
theorem w_t2 : ((words1.drop 24).take 24).all (fun c => isCode c || c.before args0 about1) = true := by decide +kernel
set_option maxRecDepth 65536 in
theorem w_t3 : (((words1.drop 24).drop 24).take 24).all (fun c => isCode c || c.before args0 about1) = true := by decide +kernel
set_option maxRecDepth 65536 in
theorem w_t4 : (((words1.drop 24).drop 24).drop 24).all (fun c => isCode c || c.before args0 about1) = true := by decide +kernel
theorem w_tables : (allAtoms (Jvm.Cond.code x code maxLocals ret :: tables_1)).before args0 about1 = true := by
  rw [allAtoms_all]
  show words1.all (fun c => c.before args0 about1) = true
  refine all_split ?_ w_codes
  rw [← List.take_append_drop 24 words1, List.all_append, w_t1, ← List.take_append_drop 24 (words1.drop 24), List.all_append, w_t2, ← List.take_append_drop 24 ((words1.drop 24).drop 24), List.all_append, w_t3, w_t4]
  rfl
set_option maxRecDepth 65536 in
theorem w_case : (Jvm.Cond.and given_1 narrow_1).before args0 about1 = true := by decide +kernel
theorem w_applies : (headSpec (Jvm.Cond.code x code maxLocals ret :: tables_1) room_1).applies x e0.platform about1 = true :=
  (Spec.applies_iff w_frames).mpr ⟨w_running, w_runnable, w_alone, w_named, w_hears, w_ripe, w_room, w_tables⟩
theorem atStart : AtStart classFile x code maxLocals ret World_1 tables_1 room_1 Calls_1 rest_1 Pre_1 launch0 p0 e0 about1 theMethod args0 below0 :=
  ⟨lists_1, trivial, launch0.admits_env _ _ _, launch0.least_env, fairChoices_fair.cas, fairChoices_fair.clock, w_frames, w_args, w_heap, w_applies, trivial, trivial, w_case⟩
end start1
theorem witness_1 : WitnessClaimed_1 := ⟨start1.p0, start1.e0, start1.about1, start1.theMethod, start1.args0, start1.below0, start1.atStart⟩
end Jvm.Pilot.@@N@@
