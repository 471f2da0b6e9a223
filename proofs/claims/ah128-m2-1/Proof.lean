import JvmDerived
import JvmDerived.Pilot.@@N@@Statement
import JvmDerived.Pilot.@@N@@Code
set_option linter.unusedVariables false
set_option linter.unusedSimpArgs false
namespace Jvm.Pilot.@@N@@
open Jvm Jvm.ClassFile Sem Op Lib Jvm.Free Jvm.Stand Jvm.LawKit Jvm.RoadKit Bundle Jvm.Pilot.@@N@@.Jvm.D
/-! the walk's own small kit: a run that ends in a return (own_Ends), a method's contract (own_Con), one step (own_go), the returns, the calls -/
section Own
variable {p : Program} {l : Launch} {e : Env} {R : Room} {s : State} {m : MethodId} {args : Array Value} {below : List Frame} {meth : Method} {c : Code} {T : State} {locs : List Loc} {cells slots : Nat} {Z : State} {a0 : Array Value} {h : Heap} {n0 kc ks : Nat}
/-- from the frame g at T the run comes to a return; what was written lies at or above n0; Q says what is returned and what the heap is then -/
def own_Ends (p : Program) (e : Env) (below : List Frame) (s : State) (n0 kc ks : Nat) (T : State) (g : JFrame) (Q : Option Value → Heap → Prop) : Prop :=
  ∃ s₂ o, Steps p.tables e below (T.setTop g) s₂ ∧ s₂.status = .running ∧ Ended s₂ below o ∧ ∃ v L, o = .returned v ∧ (Fr n0 L ∧ Q v s₂.heap) ∧ FrameEnd s o s₂ L kc ks
theorem own_go {T' : State} {g g' : JFrame} {Q : Option Value → Heap → Prop} (k : ∀ t, Steps p.tables e below (T'.setTop g') t → Steps p.tables e below (T.setTop g) t) (q : own_Ends p e below s n0 kc ks T' g' Q) : own_Ends p e below s n0 kc ks T g Q := by
  obtain ⟨s₂, o, h1, r⟩ := q
  exact ⟨s₂, o, k _ h1, r⟩
theorem own_mono {g : JFrame} {Q Q' : Option Value → Heap → Prop} (q : own_Ends p e below s n0 kc ks T g Q) (i : ∀ v h, Q v h → Q' v h) : own_Ends p e below s n0 kc ks T g Q' := by
  obtain ⟨s₂, o, h1, h2, h3, v, L, h4, ⟨h5, h6⟩, h7⟩ := q
  exact ⟨s₂, o, h1, h2, h3, v, L, h4, ⟨h5, i _ _ h6⟩, h7⟩
theorem own_retW (X : Stand p l e R s m args below meth c T locs cells slots) (hx : p.tables.exec = Jvm.exec) (hlk : meth.locks = false) {pc : Nat} {Ls : Array Slot} {w : Value} {t : FieldType} {i : Instr} {rest : List Value} (hret : meth.sig.returnType = some t) (hn : narrow t w = w)
    (hi : (i = .ireturn ∧ (t = .int ∨ t = .boolean ∨ t = .byte ∨ t = .char ∨ t = .short) ∧ ∃ z, w = .int z) ∨ (i = .lreturn ∧ t = .long ∧ ∃ z, w = .long z) ∨ (i = .dreturn ∧ t = .double ∧ ∃ z, w = .double z) ∨ (i = .freturn ∧ t = .float ∧ ∃ z, w = .float z) ∨ (i = .areturn ∧ t.isReference = true ∧ w.isRef = true))
    (hd : decode c.code pc = .ok (i, 1)) {Q : Option Value → Heap → Prop} (hc : cells ≤ kc) (hs : slots ≤ ks) (N : Fr n0 locs) (q : Q (some w) T.heap) : own_Ends p e below s n0 kc ks T (mkF m pc Ls (w :: rest)) Q := by
  obtain ⟨fs, hr, hrun, hended, hW, hsame⟩ := X.leave (v := some w) (fun h => by rw [hret] at h; cases h) hlk
  exact ⟨_, _, retOut X hx hret hn hi hd hr, hrun, hended, _, _, rfl, ⟨N, q⟩, ⟨_, rfl⟩, hW, hsame.mono hc hs⟩
theorem own_retI (X : Stand p l e R s m args below meth c T locs cells slots) (hx : p.tables.exec = Jvm.exec) (hlk : meth.locks = false) {pc : Nat} {Ls : Array Slot} {z : Int32} {rest : List Value} (hret : meth.sig.returnType = some .int)
    (hd : decode c.code pc = .ok (.ireturn, 1)) {Q : Option Value → Heap → Prop} (hc : cells ≤ kc) (hs : slots ≤ ks) (N : Fr n0 locs) (q : Q (some (.int z)) T.heap) : own_Ends p e below s n0 kc ks T (mkF m pc Ls (.int z :: rest)) Q :=
  own_retW X hx hlk hret rfl (Or.inl ⟨rfl, Or.inl rfl, z, rfl⟩) hd hc hs N q
theorem own_retJ (X : Stand p l e R s m args below meth c T locs cells slots) (hx : p.tables.exec = Jvm.exec) (hlk : meth.locks = false) {pc : Nat} {Ls : Array Slot} {z : Int64} {rest : List Value} (hret : meth.sig.returnType = some .long)
    (hd : decode c.code pc = .ok (.lreturn, 1)) {Q : Option Value → Heap → Prop} (hc : cells ≤ kc) (hs : slots ≤ ks) (N : Fr n0 locs) (q : Q (some (.long z)) T.heap) : own_Ends p e below s n0 kc ks T (mkF m pc Ls (.long z :: rest)) Q :=
  own_retW X hx hlk hret rfl (Or.inr (Or.inl ⟨rfl, rfl, z, rfl⟩)) hd hc hs N q
theorem own_retA (X : Stand p l e R s m args below meth c T locs cells slots) (hx : p.tables.exec = Jvm.exec) (hlk : meth.locks = false) {pc : Nat} {Ls : Array Slot} {a : Addr} {t : FieldType} {rest : List Value} (hret : meth.sig.returnType = some t) (ht : t.isReference = true) (hn : narrow t (.ref a) = .ref a)
    (hd : decode c.code pc = .ok (.areturn, 1)) {Q : Option Value → Heap → Prop} (hc : cells ≤ kc) (hs : slots ≤ ks) (N : Fr n0 locs) (q : Q (some (.ref a)) T.heap) : own_Ends p e below s n0 kc ks T (mkF m pc Ls (.ref a :: rest)) Q :=
  own_retW X hx hlk hret hn (Or.inr (Or.inr (Or.inr (Or.inr ⟨rfl, ht, rfl⟩)))) hd hc hs N q
theorem own_retN (X : Stand p l e R s m args below meth c T locs cells slots) (hx : p.tables.exec = Jvm.exec) (hlk : meth.locks = false) {pc : Nat} {Ls : Array Slot} {z : Int32} {t : FieldType} {rest : List Value} (hret : meth.sig.returnType = some t) (ht : t = .boolean ∨ t = .byte ∨ t = .char ∨ t = .short)
    (hd : decode c.code pc = .ok (.ireturn, 1)) {Q : Option Value → Heap → Prop} (hc : cells ≤ kc) (hs : slots ≤ ks) (N : Fr n0 locs) (q : Q (some (.int (nar t z))) T.heap) : own_Ends p e below s n0 kc ks T (mkF m pc Ls (.int z :: rest)) Q := by
  obtain ⟨fs, hr, hrun, hended, hW, hsame⟩ := X.leave (v := some (.int (nar t z))) (fun h => by rw [hret] at h; cases h) hlk
  exact ⟨_, _, retN X hx hret ht hd hr, hrun, hended, _, _, rfl, ⟨N, q⟩, ⟨_, rfl⟩, hW, hsame.mono hc hs⟩
theorem own_retV (X : Stand p l e R s m args below meth c T locs cells slots) (hx : p.tables.exec = Jvm.exec) (hlk : meth.locks = false) {pc : Nat} {Ls : Array Slot} (hret : meth.sig.returnType = none)
    (hd : decode c.code pc = .ok (.return_, 1)) {Q : Option Value → Heap → Prop} (hc : cells ≤ kc) (hs : slots ≤ ks) (N : Fr n0 locs) (q : Q none T.heap) : own_Ends p e below s n0 kc ks T (mkF m pc Ls []) Q := by
  obtain ⟨fs, hr, hrun, hended, hW, hsame⟩ := X.leave (v := none) (fun _ => rfl) hlk
  exact ⟨_, _, X.returnOut hx hret hd hr, hrun, hended, _, _, rfl, ⟨N, q⟩, ⟨_, rfl⟩, hW, hsame.mono hc hs⟩
/-- a method's contract: called with as' at the heap h it returns, and Q says what; nothing below n0 is written -/
def own_Con (ws : List Jvm.Cond) (l : Launch) (Z : State) (y : MethodName) (bytes : ByteArray) (maxL : Nat) (ret : Option FieldType) (rm : Room) (n0 : Nat) (as' : Array Value) (h : Heap) (Q : Option Value → Heap → Prop) : Prop :=
  MetFree l y (head1 (Jvm.Cond.code y bytes maxL ret :: ws) rm) (fun a U => a = as' ∧ Z.Warmed39 U.vm ∧ U.heap = h) (fun _ _ _ _ _ => True) (fun _ U o U' => ∃ v L, o = .returned v ∧ (Fr n0 L ∧ Q v U'.heap) ∧ FrameEnd U o U' L rm.cells rm.slots)
theorem own_body {ws : List Jvm.Cond} {y : MethodName} {bytes : ByteArray} {maxL : Nat} {ret : Option FieldType} {rm : Room} {as' : Array Value} {Q : Option Value → Heap → Prop} (hy : plainFor y = true) (fr : MethodId → JFrame) (hfr : ∀ m, entryFrame m as' maxL = fr m)
    (H : ∀ (p : Program) (e : Env) (s : State) (m : MethodId) (below : List Frame) (meth : Method) (c : Code) (s₁ : State), p.tables.exec = Jvm.exec → c.code = bytes → c.maxLocals = maxL → s.vm.findClass y.cls = some m.cls → meth.name = y.name → Z.Warmed39 s.vm → meth.sig.returnType = ret → meth.locks = false →
      Stand p l e rm s m as' below meth c s₁ [] 0 0 → s₁.heap = h → Fr n0 [] → own_Ends p e below s n0 rm.cells rm.slots s₁ (fr m) Q) : own_Con ws l Z y bytes maxL ret rm n0 as' h Q := by
  refine MetFree.of_bodySF hy hisR ?_
  intro p e s m args below meth c s₁ Bd hml0 hP hK
  obtain ⟨rfl, hZ, hh⟩ := hP
  have E := H p e s m below meth c s₁ Bd.exec Bd.bytes hml0 (findClass_of_methodNamed Bd.named) (name_of_methodNamed Bd.named Bd.method).1 hZ Bd.returns Bd.notSynchronized (Stand.of_body Bd) (by rw [← hh, Bd.state]; rfl) (Fr.nil n0)
  rw [← hfr m] at E
  exact E
/-- invokestatic by the callee's contract -/
theorem own_callS (X : Stand p l e R s m args below meth c T locs cells slots) (hx : p.tables.exec = Jvm.exec) (hZ : Z.Warmed39 s.vm) {own : String} {index : Nat} {y : MethodName} {bytes : ByteArray} {maxL : Nat} {ret : Option FieldType}
    (hown : s.vm.findClass own = some m.cls) (w1 : (Jvm.Cond.methodLink own index y).before a0 Z = true) (w2 : (Jvm.Cond.static y).before a0 Z = true) (w3 : (Jvm.Cond.initialized y.cls).before a0 Z = true) (w4 : (Jvm.Cond.code y bytes maxL ret).before a0 Z = true)
    (hy : y.cls ≠ "java/lang/invoke/MethodHandle" ∧ y.cls ≠ "java/lang/invoke/VarHandle") {argsL rest : List Value} {Q : Option Value → Heap → Prop} {rm : Room} (hM : own_Con [] l Z y bytes maxL ret rm n0 argsL.toArray h Q) {W : Nat} (hf : rm.frames + 1 ≤ R.frames) (hl : W + (maxL + 11) + rm.locals ≤ R.locals)
    {g : JFrame} (hg : g.method = m) (hsize : g.locals.size = c.maxLocals) {ps : List FieldType} {r : Option FieldType} (hpd : parseMethodDescriptor y.desc = some ⟨ps, r⟩) (hlen : argsL.length = ps.length) (hstack : g.stack = argsL.reverse ++ rest) (hW : 2 * g.monitorRoom + (rest.map fun v => v.category).sum ≤ W)
    (hd : decode c.code g.pc = .ok (.invokestatic index, 3)) (eT : T.heap = h) (hc : cells + rm.cells ≤ R.cells) (hs : slots + rm.slots ≤ R.slots) (N : Fr n0 locs) :
    ∃ v T' L', Stand p l e R s m args below meth c T' L' (cells + rm.cells) (slots + rm.slots) ∧ Fr n0 L' ∧ Q v T'.heap ∧ ∀ t, Steps p.tables e below (T'.setTop { g with pc := g.pc + 3, stack := v.toList ++ rest }) t → Steps p.tables e below (T.setTop g) t := by
  obtain ⟨v, _, ⟨T', L', k', n'⟩, -, X', ⟨Lc, ⟨hN, hQ⟩, l', y', z'⟩, st⟩ := Jvm.LawKit.callS X hx hown (mvT hZ w1) (mvT hZ w2) (mvT hZ w3) (mvT hZ w4) hy (backOf (Q := fun v h L => Fr n0 L ∧ Q v h) (W := W) hM hZ w4 w3 hf hl) hg hsize (lenOf hpd hlen) hstack hW hd (fun _ _ => ⟨rfl, eT, hc, hs⟩)
  dsimp only [Pt.U, Pt.locs, Pt.cells, Pt.slots] at X' l' y' z' st hQ
  subst l' y' z'
  exact ⟨v, T', _, X', Fr.app N hN, hQ, st⟩
/-- a constructor by its contract -/
theorem own_callI (X : Stand p l e R s m args below meth c T locs cells slots) (hx : p.tables.exec = Jvm.exec) (hZ : Z.Warmed39 s.vm) {own : String} {index : Nat} {y : MethodName} {bytes : ByteArray} {maxL : Nat}
    (hy1 : y.name = "<init>") (hown : s.vm.findClass own = some m.cls) (w1 : (Jvm.Cond.methodLink own index y).before a0 Z = true) (w2 : (Jvm.Cond.instanceMethod y).before a0 Z = true) (w3 : (Jvm.Cond.initialized y.cls).before a0 Z = true) (w4 : (Jvm.Cond.code y bytes maxL none).before a0 Z = true)
    (hy : y.cls ≠ "java/lang/invoke/MethodHandle" ∧ y.cls ≠ "java/lang/invoke/VarHandle") {a : Addr} {argsL rest : List Value} {Q : Option Value → Heap → Prop} {rm : Room} (hM : own_Con [] l Z y bytes maxL none rm n0 (.ref a :: argsL).toArray h Q) {W : Nat} (hf : rm.frames + 1 ≤ R.frames) (hl : W + (maxL + 11) + rm.locals ≤ R.locals)
    {g : JFrame} (hg : g.method = m) (hsize : g.locals.size = c.maxLocals) {ps : List FieldType} {r : Option FieldType} (hpd : parseMethodDescriptor y.desc = some ⟨ps, r⟩) (hlen : argsL.length = ps.length) (hstack : g.stack = argsL.reverse ++ .ref a :: rest) (hW : 2 * g.monitorRoom + (rest.map fun v => v.category).sum ≤ W)
    (hd : decode c.code g.pc = .ok (.invokespecial index, 3)) (eT : T.heap = h) (hc : cells + rm.cells ≤ R.cells) (hs : slots + rm.slots ≤ R.slots) (N : Fr n0 locs) :
    ∃ v T' L', Stand p l e R s m args below meth c T' L' (cells + rm.cells) (slots + rm.slots) ∧ Fr n0 L' ∧ Q v T'.heap ∧ ∀ t, Steps p.tables e below (T'.setTop { g with pc := g.pc + 3, stack := v.toList ++ rest }) t → Steps p.tables e below (T.setTop g) t := by
  obtain ⟨v, _, ⟨T', L', k', n'⟩, -, X', ⟨Lc, ⟨hN, hQ⟩, l', y', z'⟩, st⟩ := X.specialBack hx hy1 hown (mvT hZ w1) (mvT hZ w2) (mvT hZ w4) hy (backOf (Q := fun v h L => Fr n0 L ∧ Q v h) (W := W) hM hZ w4 w3 hf hl) hg hsize (Steps.refl _) (lenOf hpd hlen) hstack hW hd (fun _ _ => ⟨rfl, eT, hc, hs⟩)
  dsimp only [Pt.U, Pt.locs, Pt.cells, Pt.slots] at X' l' y' z' st hQ
  subst l' y' z'
  exact ⟨v, T', _, X', Fr.app N hN, hQ, fun t k => st.trans k⟩
/-- an instance method that its own class declares, by its contract -/
theorem own_callV (X : Stand p l e R s m args below meth c T locs cells slots) (hx : p.tables.exec = Jvm.exec) (hZ : Z.Warmed39 s.vm) {own C : String} {index : Nat} {y : MethodName} {bytes : ByteArray} {maxL : Nat} {ret : Option FieldType}
    (hown : s.vm.findClass own = some m.cls) (w1 : (Jvm.Cond.methodLink own index y).before a0 Z = true) (wd : (Jvm.Cond.declares y).before a0 Z = true) (ws : (Jvm.Cond.selects C y y).before a0 Z = true) (w2 : (Jvm.Cond.instanceMethod y).before a0 Z = true) (w3 : (Jvm.Cond.initialized y.cls).before a0 Z = true) (w4 : (Jvm.Cond.code y bytes maxL ret).before a0 Z = true)
    (hy : y.cls ≠ "java/lang/invoke/MethodHandle" ∧ y.cls ≠ "java/lang/invoke/VarHandle") {a : Addr} {argsL rest : List Value} {Q : Option Value → Heap → Prop} {rm : Room} (hM : own_Con [] l Z y bytes maxL ret rm n0 (.ref a :: argsL).toArray h Q) {W : Nat} (hf : rm.frames + 1 ≤ R.frames) (hl : W + (maxL + 11) + rm.locals ≤ R.locals)
    (E : Exa Z h a C) {g : JFrame} (hg : g.method = m) (hsize : g.locals.size = c.maxLocals) {ps : List FieldType} {r : Option FieldType} (hpd : parseMethodDescriptor y.desc = some ⟨ps, r⟩) (hlen : argsL.length = ps.length) (hstack : g.stack = argsL.reverse ++ .ref a :: rest) (hW : 2 * g.monitorRoom + (rest.map fun v => v.category).sum ≤ W)
    (hd : decode c.code g.pc = .ok (.invokevirtual index, 3)) (eT : T.heap = h) (hc : cells + rm.cells ≤ R.cells) (hs : slots + rm.slots ≤ R.slots) (N : Fr n0 locs) :
    ∃ v T' L', Stand p l e R s m args below meth c T' L' (cells + rm.cells) (slots + rm.slots) ∧ Fr n0 L' ∧ Q v T'.heap ∧ ∀ t, Steps p.tables e below (T'.setTop { g with pc := g.pc + 3, stack := v.toList ++ rest }) t → Steps p.tables e below (T.setTop g) t := by
  obtain ⟨cq, kq, qa, qb, qc⟩ := isOf hZ eT E
  obtain ⟨v, _, ⟨T', L', k', n'⟩, -, X', ⟨Lc, ⟨hN, hQ⟩, l', y', z'⟩, st⟩ := X.virtualBack hx (z := y) hown (mvT hZ w1) (mvT hZ wd) (notFace_of_selects (args := #[]) (mvT hZ ws)) (mvT hZ ws) (mvT hZ w2) hy (backOf (Q := fun v h L => Fr n0 L ∧ Q v h) (W := W) hM hZ w4 w3 hf hl) qa qc hg hsize (Steps.refl _) (lenOf hpd hlen) hstack hW hd (fun _ _ => ⟨rfl, eT, hc, hs⟩)
  dsimp only [Pt.U, Pt.locs, Pt.cells, Pt.slots] at X' l' y' z' st hQ
  subst l' y' z'
  exact ⟨v, T', _, X', Fr.app N hN, hQ, fun t k => st.trans k⟩
/-! arrays by their values -/
theorem own_ldI (X : Stand p l e R s m args below meth c T locs cells slots) (hx : p.tables.exec = Jvm.exec) (hZ : Z.Warmed39 s.vm) (eT : T.heap = h) {a : Addr} {k : ClassId} {n : Int32} {vs : List Value} {d : Value} (V : Arv Z h a k .int n vs d) {j : Int32} (hj : ¬ j < 0 ∧ j < n) {v : Value} (hv : vs.getD j.toNatClampNeg d = v)
    {g : JFrame} (hg : g.method = m) {rest : List Value} (hs : g.stack = .int j :: .ref a :: rest) (hd : decode c.code g.pc = .ok (.iaload, 1)) : ∀ t, Steps p.tables e below (T.setTop { g with pc := g.pc + 1, stack := v :: rest }) t → Steps p.tables e below (T.setTop g) t := by
  obtain ⟨cl, Ar, -, S, M, H, G⟩ := V
  have hin := inb_of S hj
  exact fun t k => X.iaload hx (by rw [eT]; exact Ar.1) (State.isArrayOf_alike hZ.alike Ar.2.1) Ar.2.2 hin (H.at hin hv) hg hs hd t k
theorem own_ldJ (X : Stand p l e R s m args below meth c T locs cells slots) (hx : p.tables.exec = Jvm.exec) (hZ : Z.Warmed39 s.vm) (eT : T.heap = h) {a : Addr} {k : ClassId} {n : Int32} {vs : List Value} {d : Value} (V : Arv Z h a k .long n vs d) {j : Int32} (hj : ¬ j < 0 ∧ j < n) {v : Value} (hv : vs.getD j.toNatClampNeg d = v)
    {g : JFrame} (hg : g.method = m) {rest : List Value} (hs : g.stack = .int j :: .ref a :: rest) (hd : decode c.code g.pc = .ok (.laload, 1)) : ∀ t, Steps p.tables e below (T.setTop { g with pc := g.pc + 1, stack := v :: rest }) t → Steps p.tables e below (T.setTop g) t := by
  obtain ⟨cl, Ar, -, S, M, H, G⟩ := V
  have hin := inb_of S hj
  exact fun t k => X.laload hx (by rw [eT]; exact Ar.1) (State.isArrayOf_alike hZ.alike Ar.2.1) Ar.2.2 hin (H.at hin hv) hg hs hd t k
theorem own_ldC (X : Stand p l e R s m args below meth c T locs cells slots) (hx : p.tables.exec = Jvm.exec) (hZ : Z.Warmed39 s.vm) (eT : T.heap = h) {a : Addr} {k : ClassId} {n : Int32} {vs : List Value} {d : Value} (V : Arv Z h a k .char n vs d) {j : Int32} (hj : ¬ j < 0 ∧ j < n) {v : Value} (hv : vs.getD j.toNatClampNeg d = v)
    {g : JFrame} (hg : g.method = m) {rest : List Value} (hs : g.stack = .int j :: .ref a :: rest) (hd : decode c.code g.pc = .ok (.caload, 1)) : ∀ t, Steps p.tables e below (T.setTop { g with pc := g.pc + 1, stack := v :: rest }) t → Steps p.tables e below (T.setTop g) t := by
  obtain ⟨cl, Ar, -, S, M, H, G⟩ := V
  have hin := inb_of S hj
  exact fun t k => X.caload hx (by rw [eT]; exact Ar.1) (State.isArrayOf_alike hZ.alike Ar.2.1) Ar.2.2 hin (H.at hin hv) hg hs hd t k
theorem own_ldB (X : Stand p l e R s m args below meth c T locs cells slots) (hx : p.tables.exec = Jvm.exec) (hZ : Z.Warmed39 s.vm) (eT : T.heap = h) {a : Addr} {k : ClassId} {n : Int32} {vs : List Value} {d : Value} (V : Arv Z h a k .byte n vs d) {j : Int32} (hj : ¬ j < 0 ∧ j < n) {v : Value} (hv : vs.getD j.toNatClampNeg d = v)
    {g : JFrame} (hg : g.method = m) {rest : List Value} (hs : g.stack = .int j :: .ref a :: rest) (hd : decode c.code g.pc = .ok (.baload, 1)) : ∀ t, Steps p.tables e below (T.setTop { g with pc := g.pc + 1, stack := v :: rest }) t → Steps p.tables e below (T.setTop g) t := by
  obtain ⟨cl, Ar, -, S, M, H, G⟩ := V
  have hin := inb_of S hj
  exact fun t k => X.baloadBytes hx (by rw [eT]; exact Ar.1) (State.isArrayOf_alike hZ.alike Ar.2.1) Ar.2.2 hin (H.at hin hv) hg hs hd t k
theorem own_len (X : Stand p l e R s m args below meth c T locs cells slots) (hx : p.tables.exec = Jvm.exec) (hZ : Z.Warmed39 s.vm) (eT : T.heap = h) {a : Addr} {k : ClassId} {ty : FieldType} {n : Int32} {vs : List Value} {d : Value} (V : Arv Z h a k ty n vs d)
    {g : JFrame} (hg : g.method = m) {rest : List Value} (hs : g.stack = .ref a :: rest) (hd : decode c.code g.pc = .ok (.arraylength, 1)) : ∀ t, Steps p.tables e below (T.setTop { g with pc := g.pc + 1, stack := .int n :: rest }) t → Steps p.tables e below (T.setTop g) t := by
  obtain ⟨cl, Ar, -, S, M, H, G⟩ := V
  intro t k
  refine X.arraylength hx (by rw [eT]; exact Ar.1) (State.isArrayOf_alike hZ.alike Ar.2.1) hg hs hd _ ?_
  rw [len_of S M]
  exact k
theorem own_stI (X : Stand p l e R s m args below meth c T locs cells slots) (hx : p.tables.exec = Jvm.exec) (hZ : Z.Warmed39 s.vm) (eT : T.heap = h) {a : Addr} {k : ClassId} {n : Int32} {vs : List Value} {d : Value} (V : Arv Z h a k .int n vs d) {j : Int32} (hj : ¬ j < 0 ∧ j < n) (i : Nat) (hi : j.toNatClampNeg = i) (hl : i < vs.length) {x : Int32}
    (N : Fr n0 locs) (ga : n0 ≤ a) {g : JFrame} (hg : g.method = m) {rest : List Value} (hs : g.stack = (.int x) :: .int j :: .ref a :: rest) (hd : decode c.code g.pc = .ok (.iastore, 1)) :
    ∃ T' h' L', Stand p l e R s m args below meth c T' L' cells slots ∧ Fr n0 L' ∧ T'.heap = h' ∧ Wr h h' a i (.int x) ∧ Arv Z h' a k .int n (vs.set i (.int x)) d ∧ ∀ t, Steps p.tables e below (T'.setTop { g with pc := g.pc + 1, stack := rest }) t → Steps p.tables e below (T.setTop g) t := by
  obtain ⟨cl, Ar, q, S, M, H, G⟩ := V
  obtain ⟨T', h', X', e', W, st⟩ := stI X hx hZ eT Ar (inb_of S hj) hg hs hd
  have V' := Arv.set Ar q S M H G rfl W i hi hl
  rw [hi] at W
  exact ⟨T', h', _, X', Fr.snoc X' N ga, e', W, V', st⟩
theorem own_stJ (X : Stand p l e R s m args below meth c T locs cells slots) (hx : p.tables.exec = Jvm.exec) (hZ : Z.Warmed39 s.vm) (eT : T.heap = h) {a : Addr} {k : ClassId} {n : Int32} {vs : List Value} {d : Value} (V : Arv Z h a k .long n vs d) {j : Int32} (hj : ¬ j < 0 ∧ j < n) (i : Nat) (hi : j.toNatClampNeg = i) (hl : i < vs.length) {x : Int64}
    (N : Fr n0 locs) (ga : n0 ≤ a) {g : JFrame} (hg : g.method = m) {rest : List Value} (hs : g.stack = (.long x) :: .int j :: .ref a :: rest) (hd : decode c.code g.pc = .ok (.lastore, 1)) :
    ∃ T' h' L', Stand p l e R s m args below meth c T' L' cells slots ∧ Fr n0 L' ∧ T'.heap = h' ∧ Wr h h' a i (.long x) ∧ Arv Z h' a k .long n (vs.set i (.long x)) d ∧ ∀ t, Steps p.tables e below (T'.setTop { g with pc := g.pc + 1, stack := rest }) t → Steps p.tables e below (T.setTop g) t := by
  obtain ⟨cl, Ar, q, S, M, H, G⟩ := V
  obtain ⟨T', h', X', e', W, st⟩ := stJ X hx hZ eT Ar (inb_of S hj) hg hs hd
  have V' := Arv.set Ar q S M H G rfl W i hi hl
  rw [hi] at W
  exact ⟨T', h', _, X', Fr.snoc X' N ga, e', W, V', st⟩
theorem own_stC (X : Stand p l e R s m args below meth c T locs cells slots) (hx : p.tables.exec = Jvm.exec) (hZ : Z.Warmed39 s.vm) (eT : T.heap = h) {a : Addr} {k : ClassId} {n : Int32} {vs : List Value} {d : Value} (V : Arv Z h a k .char n vs d) {j : Int32} (hj : ¬ j < 0 ∧ j < n) (i : Nat) (hi : j.toNatClampNeg = i) (hl : i < vs.length) {x : Int32}
    (N : Fr n0 locs) (ga : n0 ≤ a) {g : JFrame} (hg : g.method = m) {rest : List Value} (hs : g.stack = (.int x) :: .int j :: .ref a :: rest) (hd : decode c.code g.pc = .ok (.castore, 1)) :
    ∃ T' h' L', Stand p l e R s m args below meth c T' L' cells slots ∧ Fr n0 L' ∧ T'.heap = h' ∧ Wr h h' a i (.int (nar .char x)) ∧ Arv Z h' a k .char n (vs.set i (.int (nar .char x))) d ∧ ∀ t, Steps p.tables e below (T'.setTop { g with pc := g.pc + 1, stack := rest }) t → Steps p.tables e below (T.setTop g) t := by
  obtain ⟨cl, Ar, q, S, M, H, G⟩ := V
  obtain ⟨T', h', X', e', W, st⟩ := stC X hx hZ eT Ar (inb_of S hj) hg hs hd
  have V' := Arv.set Ar q S M H G (fits_nar_char _) W i hi hl
  rw [hi] at W
  exact ⟨T', h', _, X', Fr.snoc X' N ga, e', W, V', st⟩
theorem own_stB (X : Stand p l e R s m args below meth c T locs cells slots) (hx : p.tables.exec = Jvm.exec) (hZ : Z.Warmed39 s.vm) (eT : T.heap = h) {a : Addr} {k : ClassId} {n : Int32} {vs : List Value} {d : Value} (V : Arv Z h a k .byte n vs d) {j : Int32} (hj : ¬ j < 0 ∧ j < n) (i : Nat) (hi : j.toNatClampNeg = i) (hl : i < vs.length) {x : Int32}
    (N : Fr n0 locs) (ga : n0 ≤ a) {g : JFrame} (hg : g.method = m) {rest : List Value} (hs : g.stack = (.int x) :: .int j :: .ref a :: rest) (hd : decode c.code g.pc = .ok (.bastore, 1)) :
    ∃ T' h' L', Stand p l e R s m args below meth c T' L' cells slots ∧ Fr n0 L' ∧ T'.heap = h' ∧ Wr h h' a i (.int (nar .byte x)) ∧ Arv Z h' a k .byte n (vs.set i (.int (nar .byte x))) d ∧ ∀ t, Steps p.tables e below (T'.setTop { g with pc := g.pc + 1, stack := rest }) t → Steps p.tables e below (T.setTop g) t := by
  obtain ⟨cl, Ar, q, S, M, H, G⟩ := V
  obtain ⟨T', h', X', e', W, st⟩ := stB X hx hZ eT Ar (inb_of S hj) hg hs hd
  have V' := Arv.set Ar q S M H G (fits_nar_byte _) W i hi hl
  rw [hi] at W
  exact ⟨T', h', _, X', Fr.snoc X' N ga, e', W, V', st⟩
theorem own_new (X : Stand p l e R s m args below meth c T locs cells slots) (hx : p.tables.exec = Jvm.exec) (hZ : Z.Warmed39 s.vm) {aty : ArrayType} (w : (Jvm.Cond.arrayClass (newarray.typeOf aty)).before a0 Z = true) (eT : T.heap = h) {g : JFrame} (hg : g.method = m) (hd : decode c.code g.pc = .ok (.newarray aty, 2)) {n : Int32} {rest : List Value} (hs : g.stack = .int n :: rest)
    (hn : ¬ n < 0) {cap : Nat} (hcap : n.toNatClampNeg ≤ cap) (hb : cap * 8 ≤ 536870912) (hc : cells + 1 ≤ R.cells) (hl : slots + cap ≤ R.slots) :
    ∃ T' h' k a, a = h.size ∧ Stand p l e R s m args below meth c T' locs (cells + 1) (slots + cap) ∧ T'.heap = h' ∧ Ext h h' ∧ Arv Z h' a k (newarray.typeOf aty) n [] (defaultValue (newarray.typeOf aty)) ∧
      ∀ t, Steps p.tables e below (T'.setTop { g with pc := g.pc + 2, stack := .ref a :: rest }) t → Steps p.tables e below (T.setTop g) t := by
  obtain ⟨T', h', k, X', e', E, A, st⟩ := newP X hx hZ w eT hg hd hs hn hcap hb hc hl
  exact ⟨T', h', k, _, rfl, X', e', E, Arv.new A hn, st⟩
/-- what a method that only reads leaves -/
def own_P (z : Value) (h0 : Heap) : Option Value → Heap → Prop := fun v h => v = some z ∧ h = h0
end Own
def f1_22 (q0 : Int64) (v2 : Int64) : Int64 := (v2 ^^^ ((v2.toUInt64 >>> ((33 : Int32) &&& 0x3f).toInt64.toUInt64).toInt64))
def f1_11 (q0 : Int64) (v2 : Int64) : Int64 := (f1_22 q0 ((v2 ^^^ ((v2.toUInt64 >>> ((33 : Int32) &&& 0x3f).toInt64.toUInt64).toInt64)) * (-4265267296055464877 : Int64)))
def f1_0 (q0 : Int64) : Int64 := (f1_11 q0 ((q0 ^^^ ((q0.toUInt64 >>> ((33 : Int32) &&& 0x3f).toInt64.toUInt64).toInt64)) * (-49064778989728563 : Int64)))
abbrev own_r1 : Room := { frames := 0, cells := 0, slots := 0, locals := 0 }
theorem d1_0 : decode prog_21_method_2_code 0 = .ok (.lload_n 0, 1) := by decide +kernel
theorem d1_1 : decode prog_21_method_2_code 1 = .ok (.lload_n 0, 1) := by decide +kernel
theorem d1_2 : decode prog_21_method_2_code 2 = .ok (.bipush 33, 2) := by decide +kernel
theorem d1_4 : decode prog_21_method_2_code 4 = .ok (.lushr, 1) := by decide +kernel
theorem d1_5 : decode prog_21_method_2_code 5 = .ok (.lxor, 1) := by decide +kernel
theorem d1_6 : decode prog_21_method_2_code 6 = .ok (.ldc2_w 24, 3) := by decide +kernel
theorem d1_9 : decode prog_21_method_2_code 9 = .ok (.lmul, 1) := by decide +kernel
theorem d1_10 : decode prog_21_method_2_code 10 = .ok (.lstore_n 2, 1) := by decide +kernel
theorem d1_11 : decode prog_21_method_2_code 11 = .ok (.lload_n 2, 1) := by decide +kernel
theorem d1_12 : decode prog_21_method_2_code 12 = .ok (.lload_n 2, 1) := by decide +kernel
theorem d1_13 : decode prog_21_method_2_code 13 = .ok (.bipush 33, 2) := by decide +kernel
theorem d1_15 : decode prog_21_method_2_code 15 = .ok (.lushr, 1) := by decide +kernel
theorem d1_16 : decode prog_21_method_2_code 16 = .ok (.lxor, 1) := by decide +kernel
theorem d1_17 : decode prog_21_method_2_code 17 = .ok (.ldc2_w 26, 3) := by decide +kernel
theorem d1_20 : decode prog_21_method_2_code 20 = .ok (.lmul, 1) := by decide +kernel
theorem d1_21 : decode prog_21_method_2_code 21 = .ok (.lstore_n 2, 1) := by decide +kernel
theorem d1_22 : decode prog_21_method_2_code 22 = .ok (.lload_n 2, 1) := by decide +kernel
theorem d1_23 : decode prog_21_method_2_code 23 = .ok (.lload_n 2, 1) := by decide +kernel
theorem d1_24 : decode prog_21_method_2_code 24 = .ok (.bipush 33, 2) := by decide +kernel
theorem d1_26 : decode prog_21_method_2_code 26 = .ok (.lushr, 1) := by decide +kernel
theorem d1_27 : decode prog_21_method_2_code 27 = .ok (.lxor, 1) := by decide +kernel
theorem d1_28 : decode prog_21_method_2_code 28 = .ok (.lreturn, 1) := by decide +kernel
theorem ef_1 (m : MethodId) (q0 : Int64) : entryFrame m #[(.long q0)] 4 = mkF m 0 #[.val (.long q0), .second, .unset, .unset] [] := by first | (simp [entryFrame, mkF, argsToLocals, Value.category]; done) | rfl
set_option maxRecDepth 65536 in
set_option maxHeartbeats 40000000 in
theorem rm1 (l : Launch) (Z : State) (a0 : Array Value) (hw : ∀ d ∈ tables_1, d.before a0 Z = true) (q0 : Int64) (h0 : Heap) (n0 : Nat) : own_Con [] l Z (⟨"com/example/drossel/drossel/ProducerIdTable", "hash", "(J)J"⟩ : MethodName) prog_21_method_2_code 4 (some .long) own_r1 n0 #[(.long q0)] h0 (own_P (.long (f1_0 q0)) h0) := by
  refine own_body (plainFor_of_name (by first | (simp [plainName, overriddenIn]; done) | decide +kernel)) (fun m => mkF m 0 #[.val (.long q0), .second, .unset, .unset] []) (fun m => ef_1 m q0) ?_
  intro p e s m below meth c s₁ hx hby hml hown hnm hZ hret hlk X0 e0 N0
  have w_f1_22 : ∀ {T : State} {locs : List Loc} (X : Stand p l e own_r1 s m #[(.long q0)] below meth c T locs 0 0) (eT : T.heap = h0) (N : Fr n0 locs) (v2 : Int64), own_Ends p e below s n0 own_r1.cells own_r1.slots T (mkF m 22 #[.val (.long q0), .second, .val (.long v2), .second] []) (own_P (.long (f1_22 q0 v2)) h0) := by
    intro T locs X eT N v2
    show own_Ends p e below s n0 _ _ _ _ (own_P (.long (v2 ^^^ ((v2.toUInt64 >>> ((33 : Int32) &&& 0x3f).toInt64.toUInt64).toInt64))) h0)
    refine own_go (T' := T) (g' := (mkF m 28 #[.val (.long q0), .second, .val (.long v2), .second] [(.long (v2 ^^^ ((v2.toUInt64 >>> ((33 : Int32) &&& 0x3f).toInt64.toUInt64).toInt64)))])) (fun t k => ?_) ?_
    · show Steps p.tables e below (T.setTop (mkF m 22 #[.val (.long q0), .second, .val (.long v2), .second] [])) t
      refine XS.lloadN X.here hx rfl (hb hby d1_22) rfl ?_
      show Steps p.tables e below (T.setTop (mkF m 23 #[.val (.long q0), .second, .val (.long v2), .second] [(.long v2)])) _
      refine XS.lloadN X.here hx rfl (hb hby d1_23) rfl ?_
      show Steps p.tables e below (T.setTop (mkF m 24 #[.val (.long q0), .second, .val (.long v2), .second] [(.long v2), (.long v2)])) _
      refine XS.bipush X.here hx rfl (hb hby d1_24) ?_
      show Steps p.tables e below (T.setTop (mkF m 26 #[.val (.long q0), .second, .val (.long v2), .second] [(.int (33 : Int32)), (.long v2), (.long v2)])) _
      refine XS.lushr X.here hx rfl (hb hby d1_26) rfl ?_
      show Steps p.tables e below (T.setTop (mkF m 27 #[.val (.long q0), .second, .val (.long v2), .second] [(.long ((v2.toUInt64 >>> ((33 : Int32) &&& 0x3f).toInt64.toUInt64).toInt64)), (.long v2)])) _
      refine XS.lxor X.here hx rfl (hb hby d1_27) rfl ?_
      show Steps p.tables e below (T.setTop (mkF m 28 #[.val (.long q0), .second, .val (.long v2), .second] [(.long (v2 ^^^ ((v2.toUInt64 >>> ((33 : Int32) &&& 0x3f).toInt64.toUInt64).toInt64)))])) _
      exact k
    exact own_retJ X hx hlk hret (hb hby d1_28) (by decide) (by decide) N ⟨rfl, eT⟩
  have w_f1_11 : ∀ {T : State} {locs : List Loc} (X : Stand p l e own_r1 s m #[(.long q0)] below meth c T locs 0 0) (eT : T.heap = h0) (N : Fr n0 locs) (v2 : Int64), own_Ends p e below s n0 own_r1.cells own_r1.slots T (mkF m 11 #[.val (.long q0), .second, .val (.long v2), .second] []) (own_P (.long (f1_11 q0 v2)) h0) := by
    intro T locs X eT N v2
    show own_Ends p e below s n0 _ _ _ _ (own_P (.long (f1_22 q0 ((v2 ^^^ ((v2.toUInt64 >>> ((33 : Int32) &&& 0x3f).toInt64.toUInt64).toInt64)) * (-4265267296055464877 : Int64)))) h0)
    refine own_go (T' := T) (g' := (mkF m 22 #[.val (.long q0), .second, .val (.long ((v2 ^^^ ((v2.toUInt64 >>> ((33 : Int32) &&& 0x3f).toInt64.toUInt64).toInt64)) * (-4265267296055464877 : Int64))), .second] [])) (fun t k => ?_) ?_
    · show Steps p.tables e below (T.setTop (mkF m 11 #[.val (.long q0), .second, .val (.long v2), .second] [])) t
      refine XS.lloadN X.here hx rfl (hb hby d1_11) rfl ?_
      show Steps p.tables e below (T.setTop (mkF m 12 #[.val (.long q0), .second, .val (.long v2), .second] [(.long v2)])) _
      refine XS.lloadN X.here hx rfl (hb hby d1_12) rfl ?_
      show Steps p.tables e below (T.setTop (mkF m 13 #[.val (.long q0), .second, .val (.long v2), .second] [(.long v2), (.long v2)])) _
      refine XS.bipush X.here hx rfl (hb hby d1_13) ?_
      show Steps p.tables e below (T.setTop (mkF m 15 #[.val (.long q0), .second, .val (.long v2), .second] [(.int (33 : Int32)), (.long v2), (.long v2)])) _
      refine XS.lushr X.here hx rfl (hb hby d1_15) rfl ?_
      show Steps p.tables e below (T.setTop (mkF m 16 #[.val (.long q0), .second, .val (.long v2), .second] [(.long ((v2.toUInt64 >>> ((33 : Int32) &&& 0x3f).toInt64.toUInt64).toInt64)), (.long v2)])) _
      refine XS.lxor X.here hx rfl (hb hby d1_16) rfl ?_
      show Steps p.tables e below (T.setTop (mkF m 17 #[.val (.long q0), .second, .val (.long v2), .second] [(.long (v2 ^^^ ((v2.toUInt64 >>> ((33 : Int32) &&& 0x3f).toInt64.toUInt64).toInt64)))])) _
      refine X.ldc2Long hx hown (mvT hZ (hw _ (List.mem_of_getElem? (i := 5) rfl))) (g := (mkF m 17 #[.val (.long q0), .second, .val (.long v2), .second] [(.long (v2 ^^^ ((v2.toUInt64 >>> ((33 : Int32) &&& 0x3f).toInt64.toUInt64).toInt64)))])) rfl (hb hby d1_17) _ ?_
      show Steps p.tables e below (T.setTop (mkF m 20 #[.val (.long q0), .second, .val (.long v2), .second] [(.long (-4265267296055464877 : Int64)), (.long (v2 ^^^ ((v2.toUInt64 >>> ((33 : Int32) &&& 0x3f).toInt64.toUInt64).toInt64)))])) _
      refine XS.lmul X.here hx rfl (hb hby d1_20) rfl ?_
      show Steps p.tables e below (T.setTop (mkF m 21 #[.val (.long q0), .second, .val (.long v2), .second] [(.long ((v2 ^^^ ((v2.toUInt64 >>> ((33 : Int32) &&& 0x3f).toInt64.toUInt64).toInt64)) * (-4265267296055464877 : Int64)))])) _
      refine XS.lstoreN X.here hx rfl (hb hby d1_21) rfl (l' := #[.val (.long q0), .second, .val (.long ((v2 ^^^ ((v2.toUInt64 >>> ((33 : Int32) &&& 0x3f).toInt64.toUInt64).toInt64)) * (-4265267296055464877 : Int64))), .second]) rfl ?_
      show Steps p.tables e below (T.setTop (mkF m 22 #[.val (.long q0), .second, .val (.long ((v2 ^^^ ((v2.toUInt64 >>> ((33 : Int32) &&& 0x3f).toInt64.toUInt64).toInt64)) * (-4265267296055464877 : Int64))), .second] [])) _
      exact k
    exact w_f1_22 X eT N ((v2 ^^^ ((v2.toUInt64 >>> ((33 : Int32) &&& 0x3f).toInt64.toUInt64).toInt64)) * (-4265267296055464877 : Int64))
  show own_Ends p e below s n0 _ _ _ _ (own_P (.long (f1_11 q0 ((q0 ^^^ ((q0.toUInt64 >>> ((33 : Int32) &&& 0x3f).toInt64.toUInt64).toInt64)) * (-49064778989728563 : Int64)))) h0)
  refine own_go (T' := s₁) (g' := (mkF m 11 #[.val (.long q0), .second, .val (.long ((q0 ^^^ ((q0.toUInt64 >>> ((33 : Int32) &&& 0x3f).toInt64.toUInt64).toInt64)) * (-49064778989728563 : Int64))), .second] [])) (fun t k => ?_) ?_
  · show Steps p.tables e below (s₁.setTop (mkF m 0 #[.val (.long q0), .second, .unset, .unset] [])) t
    refine XS.lloadN X0.here hx rfl (hb hby d1_0) rfl ?_
    show Steps p.tables e below (s₁.setTop (mkF m 1 #[.val (.long q0), .second, .unset, .unset] [(.long q0)])) _
    refine XS.lloadN X0.here hx rfl (hb hby d1_1) rfl ?_
    show Steps p.tables e below (s₁.setTop (mkF m 2 #[.val (.long q0), .second, .unset, .unset] [(.long q0), (.long q0)])) _
    refine XS.bipush X0.here hx rfl (hb hby d1_2) ?_
    show Steps p.tables e below (s₁.setTop (mkF m 4 #[.val (.long q0), .second, .unset, .unset] [(.int (33 : Int32)), (.long q0), (.long q0)])) _
    refine XS.lushr X0.here hx rfl (hb hby d1_4) rfl ?_
    show Steps p.tables e below (s₁.setTop (mkF m 5 #[.val (.long q0), .second, .unset, .unset] [(.long ((q0.toUInt64 >>> ((33 : Int32) &&& 0x3f).toInt64.toUInt64).toInt64)), (.long q0)])) _
    refine XS.lxor X0.here hx rfl (hb hby d1_5) rfl ?_
    show Steps p.tables e below (s₁.setTop (mkF m 6 #[.val (.long q0), .second, .unset, .unset] [(.long (q0 ^^^ ((q0.toUInt64 >>> ((33 : Int32) &&& 0x3f).toInt64.toUInt64).toInt64)))])) _
    refine X0.ldc2Long hx hown (mvT hZ (hw _ (List.mem_of_getElem? (i := 4) rfl))) (g := (mkF m 6 #[.val (.long q0), .second, .unset, .unset] [(.long (q0 ^^^ ((q0.toUInt64 >>> ((33 : Int32) &&& 0x3f).toInt64.toUInt64).toInt64)))])) rfl (hb hby d1_6) _ ?_
    show Steps p.tables e below (s₁.setTop (mkF m 9 #[.val (.long q0), .second, .unset, .unset] [(.long (-49064778989728563 : Int64)), (.long (q0 ^^^ ((q0.toUInt64 >>> ((33 : Int32) &&& 0x3f).toInt64.toUInt64).toInt64)))])) _
    refine XS.lmul X0.here hx rfl (hb hby d1_9) rfl ?_
    show Steps p.tables e below (s₁.setTop (mkF m 10 #[.val (.long q0), .second, .unset, .unset] [(.long ((q0 ^^^ ((q0.toUInt64 >>> ((33 : Int32) &&& 0x3f).toInt64.toUInt64).toInt64)) * (-49064778989728563 : Int64)))])) _
    refine XS.lstoreN X0.here hx rfl (hb hby d1_10) rfl (l' := #[.val (.long q0), .second, .val (.long ((q0 ^^^ ((q0.toUInt64 >>> ((33 : Int32) &&& 0x3f).toInt64.toUInt64).toInt64)) * (-49064778989728563 : Int64))), .second]) rfl ?_
    show Steps p.tables e below (s₁.setTop (mkF m 11 #[.val (.long q0), .second, .val (.long ((q0 ^^^ ((q0.toUInt64 >>> ((33 : Int32) &&& 0x3f).toInt64.toUInt64).toInt64)) * (-49064778989728563 : Int64))), .second] [])) _
    exact k
  exact w_f1_11 X0 e0 N0 ((q0 ^^^ ((q0.toUInt64 >>> ((33 : Int32) &&& 0x3f).toInt64.toUInt64).toInt64)) * (-49064778989728563 : Int64))
def f3_0 (q0 : Int64) : Int64 := (q0 ^^^ ((q0.toUInt64 >>> ((33 : Int32) &&& 0x3f).toInt64.toUInt64).toInt64))
abbrev own_r3 : Room := { frames := 0, cells := 0, slots := 0, locals := 0 }
theorem d3_0 : decode method_2_code 0 = .ok (.lload_n 0, 1) := by decide +kernel
theorem d3_1 : decode method_2_code 1 = .ok (.lload_n 0, 1) := by decide +kernel
theorem d3_2 : decode method_2_code 2 = .ok (.bipush 33, 2) := by decide +kernel
theorem d3_4 : decode method_2_code 4 = .ok (.lushr, 1) := by decide +kernel
theorem d3_5 : decode method_2_code 5 = .ok (.lxor, 1) := by decide +kernel
theorem d3_6 : decode method_2_code 6 = .ok (.lreturn, 1) := by decide +kernel
theorem ef_3 (m : MethodId) (q0 : Int64) : entryFrame m #[(.long q0)] 2 = mkF m 0 #[.val (.long q0), .second] [] := by first | (simp [entryFrame, mkF, argsToLocals, Value.category]; done) | rfl
set_option maxRecDepth 65536 in
set_option maxHeartbeats 40000000 in
theorem rm3 (l : Launch) (Z : State) (a0 : Array Value) (hw : ∀ d ∈ tables_1, d.before a0 Z = true) (q0 : Int64) (h0 : Heap) (n0 : Nat) : own_Con [] l Z (⟨"com/example/drossel/drossel/ProducerIdTableHashPinLaw", "unshift", "(J)J"⟩ : MethodName) method_2_code 2 (some .long) own_r3 n0 #[(.long q0)] h0 (own_P (.long (f3_0 q0)) h0) := by
  refine own_body (plainFor_of_name (by first | (simp [plainName, overriddenIn]; done) | decide +kernel)) (fun m => mkF m 0 #[.val (.long q0), .second] []) (fun m => ef_3 m q0) ?_
  intro p e s m below meth c s₁ hx hby hml hown hnm hZ hret hlk X0 e0 N0
  show own_Ends p e below s n0 _ _ _ _ (own_P (.long (q0 ^^^ ((q0.toUInt64 >>> ((33 : Int32) &&& 0x3f).toInt64.toUInt64).toInt64))) h0)
  refine own_go (T' := s₁) (g' := (mkF m 6 #[.val (.long q0), .second] [(.long (q0 ^^^ ((q0.toUInt64 >>> ((33 : Int32) &&& 0x3f).toInt64.toUInt64).toInt64)))])) (fun t k => ?_) ?_
  · show Steps p.tables e below (s₁.setTop (mkF m 0 #[.val (.long q0), .second] [])) t
    refine XS.lloadN X0.here hx rfl (hb hby d3_0) rfl ?_
    show Steps p.tables e below (s₁.setTop (mkF m 1 #[.val (.long q0), .second] [(.long q0)])) _
    refine XS.lloadN X0.here hx rfl (hb hby d3_1) rfl ?_
    show Steps p.tables e below (s₁.setTop (mkF m 2 #[.val (.long q0), .second] [(.long q0), (.long q0)])) _
    refine XS.bipush X0.here hx rfl (hb hby d3_2) ?_
    show Steps p.tables e below (s₁.setTop (mkF m 4 #[.val (.long q0), .second] [(.int (33 : Int32)), (.long q0), (.long q0)])) _
    refine XS.lushr X0.here hx rfl (hb hby d3_4) rfl ?_
    show Steps p.tables e below (s₁.setTop (mkF m 5 #[.val (.long q0), .second] [(.long ((q0.toUInt64 >>> ((33 : Int32) &&& 0x3f).toInt64.toUInt64).toInt64)), (.long q0)])) _
    refine XS.lxor X0.here hx rfl (hb hby d3_5) rfl ?_
    show Steps p.tables e below (s₁.setTop (mkF m 6 #[.val (.long q0), .second] [(.long (q0 ^^^ ((q0.toUInt64 >>> ((33 : Int32) &&& 0x3f).toInt64.toUInt64).toInt64)))])) _
    exact k
  exact own_retJ X0 hx hlk hret (hb hby d3_6) (by decide) (by decide) N0 ⟨rfl, e0⟩
def f2_0 (q0 : Int64) : Int64 := (f3_0 ((f3_0 ((f3_0 q0) * (-7154897129451604005 : Int64))) * (5725274745694666757 : Int64)))
abbrev own_r2 : Room := { frames := 1, cells := 0, slots := 0, locals := 13 }
theorem d2_0 : decode method_3_code 0 = .ok (.lload_n 0, 1) := by decide +kernel
theorem pd_0 : parseMethodDescriptor "(J)J" = some ⟨[.long], some .long⟩ := by decide +kernel
theorem d2_1 : decode method_3_code 1 = .ok (.invokestatic 7, 3) := by decide +kernel
theorem d2_4 : decode method_3_code 4 = .ok (.lstore_n 2, 1) := by decide +kernel
theorem d2_5 : decode method_3_code 5 = .ok (.lload_n 2, 1) := by decide +kernel
theorem d2_6 : decode method_3_code 6 = .ok (.ldc2_w 13, 3) := by decide +kernel
theorem d2_9 : decode method_3_code 9 = .ok (.lmul, 1) := by decide +kernel
theorem d2_10 : decode method_3_code 10 = .ok (.lstore_n 2, 1) := by decide +kernel
theorem d2_11 : decode method_3_code 11 = .ok (.lload_n 2, 1) := by decide +kernel
theorem d2_12 : decode method_3_code 12 = .ok (.invokestatic 7, 3) := by decide +kernel
theorem d2_15 : decode method_3_code 15 = .ok (.lstore_n 2, 1) := by decide +kernel
theorem d2_16 : decode method_3_code 16 = .ok (.lload_n 2, 1) := by decide +kernel
theorem d2_17 : decode method_3_code 17 = .ok (.ldc2_w 15, 3) := by decide +kernel
theorem d2_20 : decode method_3_code 20 = .ok (.lmul, 1) := by decide +kernel
theorem d2_21 : decode method_3_code 21 = .ok (.lstore_n 2, 1) := by decide +kernel
theorem d2_22 : decode method_3_code 22 = .ok (.lload_n 2, 1) := by decide +kernel
theorem d2_23 : decode method_3_code 23 = .ok (.invokestatic 7, 3) := by decide +kernel
theorem d2_26 : decode method_3_code 26 = .ok (.lreturn, 1) := by decide +kernel
theorem ef_2 (m : MethodId) (q0 : Int64) : entryFrame m #[(.long q0)] 4 = mkF m 0 #[.val (.long q0), .second, .unset, .unset] [] := by first | (simp [entryFrame, mkF, argsToLocals, Value.category]; done) | rfl
set_option maxRecDepth 65536 in
set_option maxHeartbeats 40000000 in
theorem rm2 (l : Launch) (Z : State) (a0 : Array Value) (hw : ∀ d ∈ tables_1, d.before a0 Z = true) (q0 : Int64) (h0 : Heap) (n0 : Nat) : own_Con [] l Z (⟨"com/example/drossel/drossel/ProducerIdTableHashPinLaw", "unhash", "(J)J"⟩ : MethodName) method_3_code 4 (some .long) own_r2 n0 #[(.long q0)] h0 (own_P (.long (f2_0 q0)) h0) := by
  refine own_body (plainFor_of_name (by first | (simp [plainName, overriddenIn]; done) | decide +kernel)) (fun m => mkF m 0 #[.val (.long q0), .second, .unset, .unset] []) (fun m => ef_2 m q0) ?_
  intro p e s m below meth c s₁ hx hby hml hown hnm hZ hret hlk X0 e0 N0
  show own_Ends p e below s n0 _ _ _ _ (own_P (.long (f3_0 ((f3_0 ((f3_0 q0) * (-7154897129451604005 : Int64))) * (5725274745694666757 : Int64)))) h0)
  refine own_go (T' := s₁) (g' := (mkF m 1 #[.val (.long q0), .second, .unset, .unset] [(.long q0)])) (fun t k => ?_) ?_
  · show Steps p.tables e below (s₁.setTop (mkF m 0 #[.val (.long q0), .second, .unset, .unset] [])) t
    refine XS.lloadN X0.here hx rfl (hb hby d2_0) rfl ?_
    show Steps p.tables e below (s₁.setTop (mkF m 1 #[.val (.long q0), .second, .unset, .unset] [(.long q0)])) _
    exact k
  obtain ⟨_, T1, L1, X1, N1, ⟨rfl, e1⟩, st1⟩ := own_callS X0 hx hZ hown (hw _ (List.mem_of_getElem? (i := 10) rfl)) (hw _ (List.mem_of_getElem? (i := 11) rfl)) (hw _ (List.mem_of_getElem? (i := 8) rfl)) (hw _ (List.mem_of_getElem? (i := 12) rfl)) (by decide) (argsL := [(.long q0)]) (rest := []) (rm3 l Z a0 hw q0 h0 n0) (W := 0) (by decide) (by decide) (g := (mkF m 1 #[.val (.long q0), .second, .unset, .unset] [(.long q0)])) rfl (by rw [hml]; rfl) pd_0 rfl rfl (by show 2 * 0 + _ ≤ _; exact Nat.le_of_eq rfl) (hb hby d2_1) e0 (by decide) (by decide) N0
  refine own_go (T' := T1) (g' := (mkF m 4 #[.val (.long q0), .second, .unset, .unset] [(.long (f3_0 q0))])) st1 ?_
  refine own_go (T' := T1) (g' := (mkF m 12 #[.val (.long q0), .second, .val (.long ((f3_0 q0) * (-7154897129451604005 : Int64))), .second] [(.long ((f3_0 q0) * (-7154897129451604005 : Int64)))])) (fun t k => ?_) ?_
  · show Steps p.tables e below (T1.setTop (mkF m 4 #[.val (.long q0), .second, .unset, .unset] [(.long (f3_0 q0))])) t
    refine XS.lstoreN X1.here hx rfl (hb hby d2_4) rfl (l' := #[.val (.long q0), .second, .val (.long (f3_0 q0)), .second]) rfl ?_
    show Steps p.tables e below (T1.setTop (mkF m 5 #[.val (.long q0), .second, .val (.long (f3_0 q0)), .second] [])) _
    refine XS.lloadN X1.here hx rfl (hb hby d2_5) rfl ?_
    show Steps p.tables e below (T1.setTop (mkF m 6 #[.val (.long q0), .second, .val (.long (f3_0 q0)), .second] [(.long (f3_0 q0))])) _
    refine X1.ldc2Long hx hown (mvT hZ (hw _ (List.mem_of_getElem? (i := 13) rfl))) (g := (mkF m 6 #[.val (.long q0), .second, .val (.long (f3_0 q0)), .second] [(.long (f3_0 q0))])) rfl (hb hby d2_6) _ ?_
    show Steps p.tables e below (T1.setTop (mkF m 9 #[.val (.long q0), .second, .val (.long (f3_0 q0)), .second] [(.long (-7154897129451604005 : Int64)), (.long (f3_0 q0))])) _
    refine XS.lmul X1.here hx rfl (hb hby d2_9) rfl ?_
    show Steps p.tables e below (T1.setTop (mkF m 10 #[.val (.long q0), .second, .val (.long (f3_0 q0)), .second] [(.long ((f3_0 q0) * (-7154897129451604005 : Int64)))])) _
    refine XS.lstoreN X1.here hx rfl (hb hby d2_10) rfl (l' := #[.val (.long q0), .second, .val (.long ((f3_0 q0) * (-7154897129451604005 : Int64))), .second]) rfl ?_
    show Steps p.tables e below (T1.setTop (mkF m 11 #[.val (.long q0), .second, .val (.long ((f3_0 q0) * (-7154897129451604005 : Int64))), .second] [])) _
    refine XS.lloadN X1.here hx rfl (hb hby d2_11) rfl ?_
    show Steps p.tables e below (T1.setTop (mkF m 12 #[.val (.long q0), .second, .val (.long ((f3_0 q0) * (-7154897129451604005 : Int64))), .second] [(.long ((f3_0 q0) * (-7154897129451604005 : Int64)))])) _
    exact k
  obtain ⟨_, T2, L2, X2, N2, ⟨rfl, e2⟩, st2⟩ := own_callS X1 hx hZ hown (hw _ (List.mem_of_getElem? (i := 10) rfl)) (hw _ (List.mem_of_getElem? (i := 11) rfl)) (hw _ (List.mem_of_getElem? (i := 8) rfl)) (hw _ (List.mem_of_getElem? (i := 12) rfl)) (by decide) (argsL := [(.long ((f3_0 q0) * (-7154897129451604005 : Int64)))]) (rest := []) (rm3 l Z a0 hw ((f3_0 q0) * (-7154897129451604005 : Int64)) h0 n0) (W := 0) (by decide) (by decide) (g := (mkF m 12 #[.val (.long q0), .second, .val (.long ((f3_0 q0) * (-7154897129451604005 : Int64))), .second] [(.long ((f3_0 q0) * (-7154897129451604005 : Int64)))])) rfl (by rw [hml]; rfl) pd_0 rfl rfl (by show 2 * 0 + _ ≤ _; exact Nat.le_of_eq rfl) (hb hby d2_12) e1 (by decide) (by decide) N1
  refine own_go (T' := T2) (g' := (mkF m 15 #[.val (.long q0), .second, .val (.long ((f3_0 q0) * (-7154897129451604005 : Int64))), .second] [(.long (f3_0 ((f3_0 q0) * (-7154897129451604005 : Int64))))])) st2 ?_
  refine own_go (T' := T2) (g' := (mkF m 23 #[.val (.long q0), .second, .val (.long ((f3_0 ((f3_0 q0) * (-7154897129451604005 : Int64))) * (5725274745694666757 : Int64))), .second] [(.long ((f3_0 ((f3_0 q0) * (-7154897129451604005 : Int64))) * (5725274745694666757 : Int64)))])) (fun t k => ?_) ?_
  · show Steps p.tables e below (T2.setTop (mkF m 15 #[.val (.long q0), .second, .val (.long ((f3_0 q0) * (-7154897129451604005 : Int64))), .second] [(.long (f3_0 ((f3_0 q0) * (-7154897129451604005 : Int64))))])) t
    refine XS.lstoreN X2.here hx rfl (hb hby d2_15) rfl (l' := #[.val (.long q0), .second, .val (.long (f3_0 ((f3_0 q0) * (-7154897129451604005 : Int64)))), .second]) rfl ?_
    show Steps p.tables e below (T2.setTop (mkF m 16 #[.val (.long q0), .second, .val (.long (f3_0 ((f3_0 q0) * (-7154897129451604005 : Int64)))), .second] [])) _
    refine XS.lloadN X2.here hx rfl (hb hby d2_16) rfl ?_
    show Steps p.tables e below (T2.setTop (mkF m 17 #[.val (.long q0), .second, .val (.long (f3_0 ((f3_0 q0) * (-7154897129451604005 : Int64)))), .second] [(.long (f3_0 ((f3_0 q0) * (-7154897129451604005 : Int64))))])) _
    refine X2.ldc2Long hx hown (mvT hZ (hw _ (List.mem_of_getElem? (i := 14) rfl))) (g := (mkF m 17 #[.val (.long q0), .second, .val (.long (f3_0 ((f3_0 q0) * (-7154897129451604005 : Int64)))), .second] [(.long (f3_0 ((f3_0 q0) * (-7154897129451604005 : Int64))))])) rfl (hb hby d2_17) _ ?_
    show Steps p.tables e below (T2.setTop (mkF m 20 #[.val (.long q0), .second, .val (.long (f3_0 ((f3_0 q0) * (-7154897129451604005 : Int64)))), .second] [(.long (5725274745694666757 : Int64)), (.long (f3_0 ((f3_0 q0) * (-7154897129451604005 : Int64))))])) _
    refine XS.lmul X2.here hx rfl (hb hby d2_20) rfl ?_
    show Steps p.tables e below (T2.setTop (mkF m 21 #[.val (.long q0), .second, .val (.long (f3_0 ((f3_0 q0) * (-7154897129451604005 : Int64)))), .second] [(.long ((f3_0 ((f3_0 q0) * (-7154897129451604005 : Int64))) * (5725274745694666757 : Int64)))])) _
    refine XS.lstoreN X2.here hx rfl (hb hby d2_21) rfl (l' := #[.val (.long q0), .second, .val (.long ((f3_0 ((f3_0 q0) * (-7154897129451604005 : Int64))) * (5725274745694666757 : Int64))), .second]) rfl ?_
    show Steps p.tables e below (T2.setTop (mkF m 22 #[.val (.long q0), .second, .val (.long ((f3_0 ((f3_0 q0) * (-7154897129451604005 : Int64))) * (5725274745694666757 : Int64))), .second] [])) _
    refine XS.lloadN X2.here hx rfl (hb hby d2_22) rfl ?_
    show Steps p.tables e below (T2.setTop (mkF m 23 #[.val (.long q0), .second, .val (.long ((f3_0 ((f3_0 q0) * (-7154897129451604005 : Int64))) * (5725274745694666757 : Int64))), .second] [(.long ((f3_0 ((f3_0 q0) * (-7154897129451604005 : Int64))) * (5725274745694666757 : Int64)))])) _
    exact k
  obtain ⟨_, T3, L3, X3, N3, ⟨rfl, e3⟩, st3⟩ := own_callS X2 hx hZ hown (hw _ (List.mem_of_getElem? (i := 10) rfl)) (hw _ (List.mem_of_getElem? (i := 11) rfl)) (hw _ (List.mem_of_getElem? (i := 8) rfl)) (hw _ (List.mem_of_getElem? (i := 12) rfl)) (by decide) (argsL := [(.long ((f3_0 ((f3_0 q0) * (-7154897129451604005 : Int64))) * (5725274745694666757 : Int64)))]) (rest := []) (rm3 l Z a0 hw ((f3_0 ((f3_0 q0) * (-7154897129451604005 : Int64))) * (5725274745694666757 : Int64)) h0 n0) (W := 0) (by decide) (by decide) (g := (mkF m 23 #[.val (.long q0), .second, .val (.long ((f3_0 ((f3_0 q0) * (-7154897129451604005 : Int64))) * (5725274745694666757 : Int64))), .second] [(.long ((f3_0 ((f3_0 q0) * (-7154897129451604005 : Int64))) * (5725274745694666757 : Int64)))])) rfl (by rw [hml]; rfl) pd_0 rfl rfl (by show 2 * 0 + _ ≤ _; exact Nat.le_of_eq rfl) (hb hby d2_23) e2 (by decide) (by decide) N2
  refine own_go (T' := T3) (g' := (mkF m 26 #[.val (.long q0), .second, .val (.long ((f3_0 ((f3_0 q0) * (-7154897129451604005 : Int64))) * (5725274745694666757 : Int64))), .second] [(.long (f3_0 ((f3_0 ((f3_0 q0) * (-7154897129451604005 : Int64))) * (5725274745694666757 : Int64))))])) st3 ?_
  exact own_retJ X3 hx hlk hret (hb hby d2_26) (by decide) (by decide) N3 ⟨rfl, e3⟩
def f0_36 (q0 : Int64) (q1 : Int64) (v4 : Int32) (u0 : Int32) : Int32 := (if v4 = (0 : Int32) then (0 : Int32) else (if u0 = (0 : Int32) then (0 : Int32) else (1 : Int32)))
def f0_17 (q0 : Int64) (q1 : Int64) (u0 : Int32) : Int32 := (if (f1_0 (f2_0 q1)) = q1 then (f0_36 q0 q1 u0 (1 : Int32)) else (f0_36 q0 q1 u0 (0 : Int32)))
def f0_0 (q0 : Int64) (q1 : Int64) : Int32 := (if (f2_0 (f1_0 q0)) = q0 then (f0_17 q0 q1 (1 : Int32)) else (f0_17 q0 q1 (0 : Int32)))
theorem ef_0 (m : MethodId) (q0 : Int64) (q1 : Int64) : entryFrame m #[(.long q0), (.long q1)] maxLocals = mkF m 0 #[.val (.long q0), .second, .val (.long q1), .second, .unset, .unset] [] := by first | (simp [entryFrame, mkF, argsToLocals, Value.category, maxLocals]; done) | rfl
set_option maxRecDepth 65536 in
set_option maxHeartbeats 40000000 in
theorem rm0 (l : Launch) (Z : State) (a0 : Array Value) (hw : ∀ d ∈ tables_1, d.before a0 Z = true) (q0 : Int64) (q1 : Int64) (h0 : Heap) (n0 : Nat) : own_Con tables_1 l Z x code maxLocals ret room_1 n0 #[(.long q0), (.long q1)] h0 (own_P (.int (f0_0 q0 q1)) h0) := by
  refine own_body (plainFor_of_name (by first | (simp [plainName, overriddenIn]; done) | decide +kernel)) (fun m => mkF m 0 #[.val (.long q0), .second, .val (.long q1), .second, .unset, .unset] []) (fun m => ef_0 m q0 q1) ?_
  intro p e s m below meth c s₁ hx hby hml hown hnm hZ hret hlk X0 e0 N0
  have hml : c.maxLocals = 6 := hml
  have hown : s.vm.findClass "com/example/drossel/drossel/ProducerIdTableHashPinLaw" = some m.cls := hown
  have hret : meth.sig.returnType = some .boolean := hret
  have w_f0_36 : ∀ {T : State} {locs : List Loc} (X : Stand p l e room_1 s m #[(.long q0), (.long q1)] below meth c T locs 0 0) (eT : T.heap = h0) (N : Fr n0 locs) (v4 : Int32) (u0 : Int32), own_Ends p e below s n0 room_1.cells room_1.slots T (mkF m 36 #[.val (.long q0), .second, .val (.long q1), .second, .val (.int v4), .unset] [(.int u0)]) (own_P (.int (f0_36 q0 q1 v4 u0)) h0) := by
    intro T locs X eT N v4 u0
    show own_Ends p e below s n0 _ _ _ _ (own_P (.int (if v4 = (0 : Int32) then (0 : Int32) else (if u0 = (0 : Int32) then (0 : Int32) else (1 : Int32)))) h0)
    refine own_go (T' := T) (g' := (mkF m 40 #[.val (.long q0), .second, .val (.long q1), .second, .val (.int v4), .val (.int u0)] [(.int v4)])) (fun t k => ?_) ?_
    · show Steps p.tables e below (T.setTop (mkF m 36 #[.val (.long q0), .second, .val (.long q1), .second, .val (.int v4), .unset] [(.int u0)])) t
      refine XS.istore X.here hx rfl (hb hby at_36) rfl (l' := #[.val (.long q0), .second, .val (.long q1), .second, .val (.int v4), .val (.int u0)]) rfl ?_
      show Steps p.tables e below (T.setTop (mkF m 38 #[.val (.long q0), .second, .val (.long q1), .second, .val (.int v4), .val (.int u0)] [])) _
      refine XS.iload X.here hx rfl (hb hby at_38) rfl ?_
      show Steps p.tables e below (T.setTop (mkF m 40 #[.val (.long q0), .second, .val (.long q1), .second, .val (.int v4), .val (.int u0)] [(.int v4)])) _
      exact k
    by_cases hc40_7 : v4 = (0 : Int32)
    · rw [if_pos hc40_7]
      refine own_go (T' := T) (g' := (mkF m 52 #[.val (.long q0), .second, .val (.long q1), .second, .val (.int v4), .val (.int u0)] [])) (fun t k => ?_) ?_
      · refine XS.ifYes X.here hx rfl (pc0 := 40) (pc' := 52) rfl (hb hby at_40) rfl ((if0 _ _).trans (teq hc40_7).1) (by decide) (by decide) ?_
        exact k
      refine own_go (T' := T) (g' := (mkF m 53 #[.val (.long q0), .second, .val (.long q1), .second, .val (.int v4), .val (.int u0)] [(.int (0 : Int32))])) (fun t k => ?_) ?_
      · show Steps p.tables e below (T.setTop (mkF m 52 #[.val (.long q0), .second, .val (.long q1), .second, .val (.int v4), .val (.int u0)] [])) t
        refine XS.iconst X.here hx rfl (hb hby at_52) ?_
        show Steps p.tables e below (T.setTop (mkF m 53 #[.val (.long q0), .second, .val (.long q1), .second, .val (.int v4), .val (.int u0)] [(.int (0 : Int32))])) _
        exact k
      exact own_retN X hx hlk hret (by simp) (hb hby at_53) (by decide) (by decide) N ⟨rfl, eT⟩
    · rw [if_neg hc40_7]
      refine own_go (T' := T) (g' := (mkF m 43 #[.val (.long q0), .second, .val (.long q1), .second, .val (.int v4), .val (.int u0)] [])) (fun t k => ?_) ?_
      · refine XS.ifNo X.here hx rfl (hb hby at_40) rfl ((if0 _ _).trans (feq hc40_7).1) ?_
        exact k
      refine own_go (T' := T) (g' := (mkF m 45 #[.val (.long q0), .second, .val (.long q1), .second, .val (.int v4), .val (.int u0)] [(.int u0)])) (fun t k => ?_) ?_
      · show Steps p.tables e below (T.setTop (mkF m 43 #[.val (.long q0), .second, .val (.long q1), .second, .val (.int v4), .val (.int u0)] [])) t
        refine XS.iload X.here hx rfl (hb hby at_43) rfl ?_
        show Steps p.tables e below (T.setTop (mkF m 45 #[.val (.long q0), .second, .val (.long q1), .second, .val (.int v4), .val (.int u0)] [(.int u0)])) _
        exact k
      by_cases hc45_8 : u0 = (0 : Int32)
      · rw [if_pos hc45_8]
        refine own_go (T' := T) (g' := (mkF m 52 #[.val (.long q0), .second, .val (.long q1), .second, .val (.int v4), .val (.int u0)] [])) (fun t k => ?_) ?_
        · refine XS.ifYes X.here hx rfl (pc0 := 45) (pc' := 52) rfl (hb hby at_45) rfl ((if0 _ _).trans (teq hc45_8).1) (by decide) (by decide) ?_
          exact k
        refine own_go (T' := T) (g' := (mkF m 53 #[.val (.long q0), .second, .val (.long q1), .second, .val (.int v4), .val (.int u0)] [(.int (0 : Int32))])) (fun t k => ?_) ?_
        · show Steps p.tables e below (T.setTop (mkF m 52 #[.val (.long q0), .second, .val (.long q1), .second, .val (.int v4), .val (.int u0)] [])) t
          refine XS.iconst X.here hx rfl (hb hby at_52) ?_
          show Steps p.tables e below (T.setTop (mkF m 53 #[.val (.long q0), .second, .val (.long q1), .second, .val (.int v4), .val (.int u0)] [(.int (0 : Int32))])) _
          exact k
        exact own_retN X hx hlk hret (by simp) (hb hby at_53) (by decide) (by decide) N ⟨rfl, eT⟩
      · rw [if_neg hc45_8]
        refine own_go (T' := T) (g' := (mkF m 48 #[.val (.long q0), .second, .val (.long q1), .second, .val (.int v4), .val (.int u0)] [])) (fun t k => ?_) ?_
        · refine XS.ifNo X.here hx rfl (hb hby at_45) rfl ((if0 _ _).trans (feq hc45_8).1) ?_
          exact k
        refine own_go (T' := T) (g' := (mkF m 53 #[.val (.long q0), .second, .val (.long q1), .second, .val (.int v4), .val (.int u0)] [(.int (1 : Int32))])) (fun t k => ?_) ?_
        · show Steps p.tables e below (T.setTop (mkF m 48 #[.val (.long q0), .second, .val (.long q1), .second, .val (.int v4), .val (.int u0)] [])) t
          refine XS.iconst X.here hx rfl (hb hby at_48) ?_
          show Steps p.tables e below (T.setTop (mkF m 49 #[.val (.long q0), .second, .val (.long q1), .second, .val (.int v4), .val (.int u0)] [(.int (1 : Int32))])) _
          refine XS.goto X.here hx rfl (pc0 := 49) (pc' := 53) rfl (hb hby at_49) (by decide) (by decide) ?_
          show Steps p.tables e below (T.setTop (mkF m 53 #[.val (.long q0), .second, .val (.long q1), .second, .val (.int v4), .val (.int u0)] [(.int (1 : Int32))])) _
          exact k
        exact own_retN X hx hlk hret (by simp) (hb hby at_53) (by decide) (by decide) N ⟨rfl, eT⟩
  have w_f0_17 : ∀ {T : State} {locs : List Loc} (X : Stand p l e room_1 s m #[(.long q0), (.long q1)] below meth c T locs 0 0) (eT : T.heap = h0) (N : Fr n0 locs) (u0 : Int32), own_Ends p e below s n0 room_1.cells room_1.slots T (mkF m 17 #[.val (.long q0), .second, .val (.long q1), .second, .unset, .unset] [(.int u0)]) (own_P (.int (f0_17 q0 q1 u0)) h0) := by
    intro T locs X eT N u0
    show own_Ends p e below s n0 _ _ _ _ (own_P (.int (if (f1_0 (f2_0 q1)) = q1 then (f0_36 q0 q1 u0 (1 : Int32)) else (f0_36 q0 q1 u0 (0 : Int32)))) h0)
    refine own_go (T' := T) (g' := (mkF m 20 #[.val (.long q0), .second, .val (.long q1), .second, .val (.int u0), .unset] [(.long q1)])) (fun t k => ?_) ?_
    · show Steps p.tables e below (T.setTop (mkF m 17 #[.val (.long q0), .second, .val (.long q1), .second, .unset, .unset] [(.int u0)])) t
      refine XS.istore X.here hx rfl (hb hby at_17) rfl (l' := #[.val (.long q0), .second, .val (.long q1), .second, .val (.int u0), .unset]) rfl ?_
      show Steps p.tables e below (T.setTop (mkF m 19 #[.val (.long q0), .second, .val (.long q1), .second, .val (.int u0), .unset] [])) _
      refine XS.lloadN X.here hx rfl (hb hby at_19) rfl ?_
      show Steps p.tables e below (T.setTop (mkF m 20 #[.val (.long q0), .second, .val (.long q1), .second, .val (.int u0), .unset] [(.long q1)])) _
      exact k
    obtain ⟨_, T4, L4, X4, N4, ⟨rfl, e4⟩, st4⟩ := own_callS X hx hZ hown (hw _ (List.mem_of_getElem? (i := 6) rfl)) (hw _ (List.mem_of_getElem? (i := 7) rfl)) (hw _ (List.mem_of_getElem? (i := 8) rfl)) (hw _ (List.mem_of_getElem? (i := 9) rfl)) (by decide) (argsL := [(.long q1)]) (rest := []) (rm2 l Z a0 hw q1 h0 n0) (W := 0) (by decide) (by decide) (g := (mkF m 20 #[.val (.long q0), .second, .val (.long q1), .second, .val (.int u0), .unset] [(.long q1)])) rfl (by rw [hml]; rfl) pd_0 rfl rfl (by show 2 * 0 + _ ≤ _; exact Nat.le_of_eq rfl) (hb hby at_20) eT (by decide) (by decide) N
    refine own_go (T' := T4) (g' := (mkF m 23 #[.val (.long q0), .second, .val (.long q1), .second, .val (.int u0), .unset] [(.long (f2_0 q1))])) st4 ?_
    obtain ⟨_, T5, L5, X5, N5, ⟨rfl, e5⟩, st5⟩ := own_callS X4 hx hZ hown (hw _ (List.mem_of_getElem? (i := 0) rfl)) (hw _ (List.mem_of_getElem? (i := 1) rfl)) (hw _ (List.mem_of_getElem? (i := 2) rfl)) (hw _ (List.mem_of_getElem? (i := 3) rfl)) (by decide) (argsL := [(.long (f2_0 q1))]) (rest := []) (rm1 l Z a0 hw (f2_0 q1) h0 n0) (W := 0) (by decide) (by decide) (g := (mkF m 23 #[.val (.long q0), .second, .val (.long q1), .second, .val (.int u0), .unset] [(.long (f2_0 q1))])) rfl (by rw [hml]; rfl) pd_0 rfl rfl (by show 2 * 0 + _ ≤ _; exact Nat.le_of_eq rfl) (hb hby at_23) e4 (by decide) (by decide) N4
    refine own_go (T' := T5) (g' := (mkF m 26 #[.val (.long q0), .second, .val (.long q1), .second, .val (.int u0), .unset] [(.long (f1_0 (f2_0 q1)))])) st5 ?_
    refine own_go (T' := T5) (g' := (mkF m 28 #[.val (.long q0), .second, .val (.long q1), .second, .val (.int u0), .unset] [(.int (lcmpW (f1_0 (f2_0 q1)) q1))])) (fun t k => ?_) ?_
    · show Steps p.tables e below (T5.setTop (mkF m 26 #[.val (.long q0), .second, .val (.long q1), .second, .val (.int u0), .unset] [(.long (f1_0 (f2_0 q1)))])) t
      refine XS.lloadN X5.here hx rfl (hb hby at_26) rfl ?_
      show Steps p.tables e below (T5.setTop (mkF m 27 #[.val (.long q0), .second, .val (.long q1), .second, .val (.int u0), .unset] [(.long q1), (.long (f1_0 (f2_0 q1)))])) _
      refine XS.lcmp X5.here hx rfl (hb hby at_27) rfl ?_
      show Steps p.tables e below (T5.setTop (mkF m 28 #[.val (.long q0), .second, .val (.long q1), .second, .val (.int u0), .unset] [(.int (lcmpW (f1_0 (f2_0 q1)) q1))])) _
      exact k
    by_cases hc28_6 : (f1_0 (f2_0 q1)) = q1
    · rw [if_pos hc28_6]
      refine own_go (T' := T5) (g' := (mkF m 31 #[.val (.long q0), .second, .val (.long q1), .second, .val (.int u0), .unset] [])) (fun t k => ?_) ?_
      · refine XS.ifNo X5.here hx rfl (hb hby at_28) rfl ((if0 _ _).trans (teq ((lw_eq _ _).mpr hc28_6)).2) ?_
        exact k
      refine own_go (T' := T5) (g' := (mkF m 36 #[.val (.long q0), .second, .val (.long q1), .second, .val (.int u0), .unset] [(.int (1 : Int32))])) (fun t k => ?_) ?_
      · show Steps p.tables e below (T5.setTop (mkF m 31 #[.val (.long q0), .second, .val (.long q1), .second, .val (.int u0), .unset] [])) t
        refine XS.iconst X5.here hx rfl (hb hby at_31) ?_
        show Steps p.tables e below (T5.setTop (mkF m 32 #[.val (.long q0), .second, .val (.long q1), .second, .val (.int u0), .unset] [(.int (1 : Int32))])) _
        refine XS.goto X5.here hx rfl (pc0 := 32) (pc' := 36) rfl (hb hby at_32) (by decide) (by decide) ?_
        show Steps p.tables e below (T5.setTop (mkF m 36 #[.val (.long q0), .second, .val (.long q1), .second, .val (.int u0), .unset] [(.int (1 : Int32))])) _
        exact k
      exact w_f0_36 X5 e5 N5 u0 (1 : Int32)
    · rw [if_neg hc28_6]
      refine own_go (T' := T5) (g' := (mkF m 35 #[.val (.long q0), .second, .val (.long q1), .second, .val (.int u0), .unset] [])) (fun t k => ?_) ?_
      · refine XS.ifYes X5.here hx rfl (pc0 := 28) (pc' := 35) rfl (hb hby at_28) rfl ((if0 _ _).trans (feq (mt (lw_eq _ _).mp hc28_6)).2) (by decide) (by decide) ?_
        exact k
      refine own_go (T' := T5) (g' := (mkF m 36 #[.val (.long q0), .second, .val (.long q1), .second, .val (.int u0), .unset] [(.int (0 : Int32))])) (fun t k => ?_) ?_
      · show Steps p.tables e below (T5.setTop (mkF m 35 #[.val (.long q0), .second, .val (.long q1), .second, .val (.int u0), .unset] [])) t
        refine XS.iconst X5.here hx rfl (hb hby at_35) ?_
        show Steps p.tables e below (T5.setTop (mkF m 36 #[.val (.long q0), .second, .val (.long q1), .second, .val (.int u0), .unset] [(.int (0 : Int32))])) _
        exact k
      exact w_f0_36 X5 e5 N5 u0 (0 : Int32)
  show own_Ends p e below s n0 _ _ _ _ (own_P (.int (if (f2_0 (f1_0 q0)) = q0 then (f0_17 q0 q1 (1 : Int32)) else (f0_17 q0 q1 (0 : Int32)))) h0)
  refine own_go (T' := s₁) (g' := (mkF m 1 #[.val (.long q0), .second, .val (.long q1), .second, .unset, .unset] [(.long q0)])) (fun t k => ?_) ?_
  · show Steps p.tables e below (s₁.setTop (mkF m 0 #[.val (.long q0), .second, .val (.long q1), .second, .unset, .unset] [])) t
    refine XS.lloadN X0.here hx rfl (hb hby at_0) rfl ?_
    show Steps p.tables e below (s₁.setTop (mkF m 1 #[.val (.long q0), .second, .val (.long q1), .second, .unset, .unset] [(.long q0)])) _
    exact k
  obtain ⟨_, T1, L1, X1, N1, ⟨rfl, e1⟩, st1⟩ := own_callS X0 hx hZ hown (hw _ (List.mem_of_getElem? (i := 0) rfl)) (hw _ (List.mem_of_getElem? (i := 1) rfl)) (hw _ (List.mem_of_getElem? (i := 2) rfl)) (hw _ (List.mem_of_getElem? (i := 3) rfl)) (by decide) (argsL := [(.long q0)]) (rest := []) (rm1 l Z a0 hw q0 h0 n0) (W := 0) (by decide) (by decide) (g := (mkF m 1 #[.val (.long q0), .second, .val (.long q1), .second, .unset, .unset] [(.long q0)])) rfl (by rw [hml]; rfl) pd_0 rfl rfl (by show 2 * 0 + _ ≤ _; exact Nat.le_of_eq rfl) (hb hby at_1) e0 (by decide) (by decide) N0
  refine own_go (T' := T1) (g' := (mkF m 4 #[.val (.long q0), .second, .val (.long q1), .second, .unset, .unset] [(.long (f1_0 q0))])) st1 ?_
  obtain ⟨_, T2, L2, X2, N2, ⟨rfl, e2⟩, st2⟩ := own_callS X1 hx hZ hown (hw _ (List.mem_of_getElem? (i := 6) rfl)) (hw _ (List.mem_of_getElem? (i := 7) rfl)) (hw _ (List.mem_of_getElem? (i := 8) rfl)) (hw _ (List.mem_of_getElem? (i := 9) rfl)) (by decide) (argsL := [(.long (f1_0 q0))]) (rest := []) (rm2 l Z a0 hw (f1_0 q0) h0 n0) (W := 0) (by decide) (by decide) (g := (mkF m 4 #[.val (.long q0), .second, .val (.long q1), .second, .unset, .unset] [(.long (f1_0 q0))])) rfl (by rw [hml]; rfl) pd_0 rfl rfl (by show 2 * 0 + _ ≤ _; exact Nat.le_of_eq rfl) (hb hby at_4) e1 (by decide) (by decide) N1
  refine own_go (T' := T2) (g' := (mkF m 7 #[.val (.long q0), .second, .val (.long q1), .second, .unset, .unset] [(.long (f2_0 (f1_0 q0)))])) st2 ?_
  refine own_go (T' := T2) (g' := (mkF m 9 #[.val (.long q0), .second, .val (.long q1), .second, .unset, .unset] [(.int (lcmpW (f2_0 (f1_0 q0)) q0))])) (fun t k => ?_) ?_
  · show Steps p.tables e below (T2.setTop (mkF m 7 #[.val (.long q0), .second, .val (.long q1), .second, .unset, .unset] [(.long (f2_0 (f1_0 q0)))])) t
    refine XS.lloadN X2.here hx rfl (hb hby at_7) rfl ?_
    show Steps p.tables e below (T2.setTop (mkF m 8 #[.val (.long q0), .second, .val (.long q1), .second, .unset, .unset] [(.long q0), (.long (f2_0 (f1_0 q0)))])) _
    refine XS.lcmp X2.here hx rfl (hb hby at_8) rfl ?_
    show Steps p.tables e below (T2.setTop (mkF m 9 #[.val (.long q0), .second, .val (.long q1), .second, .unset, .unset] [(.int (lcmpW (f2_0 (f1_0 q0)) q0))])) _
    exact k
  by_cases hc9_3 : (f2_0 (f1_0 q0)) = q0
  · rw [if_pos hc9_3]
    refine own_go (T' := T2) (g' := (mkF m 12 #[.val (.long q0), .second, .val (.long q1), .second, .unset, .unset] [])) (fun t k => ?_) ?_
    · refine XS.ifNo X2.here hx rfl (hb hby at_9) rfl ((if0 _ _).trans (teq ((lw_eq _ _).mpr hc9_3)).2) ?_
      exact k
    refine own_go (T' := T2) (g' := (mkF m 17 #[.val (.long q0), .second, .val (.long q1), .second, .unset, .unset] [(.int (1 : Int32))])) (fun t k => ?_) ?_
    · show Steps p.tables e below (T2.setTop (mkF m 12 #[.val (.long q0), .second, .val (.long q1), .second, .unset, .unset] [])) t
      refine XS.iconst X2.here hx rfl (hb hby at_12) ?_
      show Steps p.tables e below (T2.setTop (mkF m 13 #[.val (.long q0), .second, .val (.long q1), .second, .unset, .unset] [(.int (1 : Int32))])) _
      refine XS.goto X2.here hx rfl (pc0 := 13) (pc' := 17) rfl (hb hby at_13) (by decide) (by decide) ?_
      show Steps p.tables e below (T2.setTop (mkF m 17 #[.val (.long q0), .second, .val (.long q1), .second, .unset, .unset] [(.int (1 : Int32))])) _
      exact k
    exact w_f0_17 X2 e2 N2 (1 : Int32)
  · rw [if_neg hc9_3]
    refine own_go (T' := T2) (g' := (mkF m 16 #[.val (.long q0), .second, .val (.long q1), .second, .unset, .unset] [])) (fun t k => ?_) ?_
    · refine XS.ifYes X2.here hx rfl (pc0 := 9) (pc' := 16) rfl (hb hby at_9) rfl ((if0 _ _).trans (feq (mt (lw_eq _ _).mp hc9_3)).2) (by decide) (by decide) ?_
      exact k
    refine own_go (T' := T2) (g' := (mkF m 17 #[.val (.long q0), .second, .val (.long q1), .second, .unset, .unset] [(.int (0 : Int32))])) (fun t k => ?_) ?_
    · show Steps p.tables e below (T2.setTop (mkF m 16 #[.val (.long q0), .second, .val (.long q1), .second, .unset, .unset] [])) t
      refine XS.iconst X2.here hx rfl (hb hby at_16) ?_
      show Steps p.tables e below (T2.setTop (mkF m 17 #[.val (.long q0), .second, .val (.long q1), .second, .unset, .unset] [(.int (0 : Int32))])) _
      exact k
    exact w_f0_17 X2 e2 N2 (0 : Int32)
theorem own_bv (b : BitVec 64) : (b ^^^ b >>> 33) ^^^ ((b ^^^ b >>> 33) >>> 33) = b := by
  apply BitVec.eq_of_getLsbD_eq
  intro i hi
  have h : b.getLsbD (33 + (33 + i)) = false := BitVec.getLsbD_of_ge _ _ (by omega)
  simp only [BitVec.getLsbD_xor, BitVec.getLsbD_ushiftRight, h]
  cases b.getLsbD i <;> cases b.getLsbD (33 + i) <;> rfl
theorem own_key (x : Int64) : (f3_0 x).toBitVec = x.toBitVec ^^^ x.toBitVec >>> 33 := by
  unfold f3_0
  rw [show ((33 : Int32) &&& 0x3f).toInt64.toUInt64 = 33 from by decide]
  rfl
theorem own_uu (x : Int64) : f3_0 (f3_0 x) = x := by
  apply Int64.toBitVec_inj.mp
  rw [own_key, own_key, own_bv]
theorem own_h (x : Int64) : f1_0 x = f3_0 (f3_0 (f3_0 x * (-49064778989728563 : Int64)) * (-4265267296055464877 : Int64)) := rfl
theorem own_u (x : Int64) : f2_0 x = f3_0 (f3_0 (f3_0 x * (-7154897129451604005 : Int64)) * (5725274745694666757 : Int64)) := rfl
theorem own_back (x : Int64) : f2_0 (f1_0 x) = x := by
  rw [own_u, own_h, own_uu, Int64.mul_assoc, show (-4265267296055464877 : Int64) * (-7154897129451604005 : Int64) = 1 from by decide, Int64.mul_one, own_uu, Int64.mul_assoc, show (-49064778989728563 : Int64) * (5725274745694666757 : Int64) = 1 from by decide, Int64.mul_one, own_uu]
theorem own_forth (x : Int64) : f1_0 (f2_0 x) = x := by
  rw [own_h, own_u, own_uu, Int64.mul_assoc, show (5725274745694666757 : Int64) * (-49064778989728563 : Int64) = 1 from by decide, Int64.mul_one, own_uu, Int64.mul_assoc, show (-7154897129451604005 : Int64) * (-4265267296055464877 : Int64) = 1 from by decide, Int64.mul_one, own_uu]
theorem own_law (a b : Int64) : f0_0 a b = 1 := by
  unfold f0_0 f0_17
  rw [if_pos (own_back a), if_pos (own_forth b)]
  rfl

set_option maxRecDepth 65536 in
set_option maxHeartbeats 40000000 in
theorem comes_1 {Post : Tables → Env → Array Value → State → Outcome → State → Prop} (hpost : ∀ tb e args s v u, (limb_1_1.after args s (.returned v) u = true ∧ limb_1_2.after args s (.returned v) u = true ∧ True) → FrameEnd s (.returned v) u (Jvm.fieldLocs frame_1_writes args s ++ Jvm.arrayLocs frame_1_arrays args s ++ Jvm.staticLocs frame_1_statics s) 0 0 → Post tb e args s (.returned v) u) :
    ArmFor flags0 classFile x code maxLocals ret World_1 tables_1 room_1 Calls_1 rest_1 Pre_1 Post := by
  intro l hfl _ _ p e ha hc hk s m args below hf hA hF happ hP
  obtain ⟨hcalls, hrest, hpre⟩ := hP
  obtain ⟨-, -, -, hnamed, -, -, -, hat⟩ := (Spec.applies_iff hf).mp happ
  obtain ⟨hg, hn⟩ := and_e (Cond.before_iff.mp (show (Jvm.Cond.and given_1 narrow_1).before args s = true from hpre))
  obtain ⟨h1, g0⟩ := and_e hg
  obtain ⟨k0, g1⟩ := and_e g0
  have k1 := g1
  obtain ⟨w0, w1, rfl⟩ : ∃ w0 w1 : Value, args = #[w0, w1] := by
    have hs : args.size = 2 := by simpa [Cond.value, given_1] using h1
    obtain ⟨L⟩ := args
    match L, hs with
    | [w0, w1], _ => exact ⟨w0, w1, rfl⟩
  have hw := fun d (hd : d ∈ tables_1) => atoms_spec (ws := Jvm.Cond.code x code maxLocals ret :: tables_1) hat d (List.mem_cons_of_mem _ hd)
  obtain ⟨i0, e0⟩ := isL_v k0
  obtain rfl : w0 = (.long i0) := Option.some.inj e0
  obtain ⟨i1, e1⟩ := isL_v k1
  obtain rfl : w1 = (.long i1) := Option.some.inj e1
  obtain ⟨n, o, h1, h2, h3, v, L, rfl, ⟨N, hv⟩, hq⟩ := rm0 l s _ hw i0 i1 s.heap s.heap.size p e ha hc hk s m _ below hf ((Spec.applies_iff_loose hf).mp happ).1 ⟨rfl, State.Warmed39.refl s, rfl⟩ trivial
  obtain rfl : v = some (.int 1) := hv.1.trans (by rw [own_law])
  refine ⟨n, _, h1, h2, h3, hpost _ _ _ _ _ _ ⟨Cond.after_iff.mpr rfl, Cond.after_iff.mpr (eq_i res_at (Term.int_eval (1)) rfl), trivial⟩ ⟨hq.1, hq.2.1, (hq.2.2.sift fun y hy => Or.inr (N y hy)).mono (by decide) (by decide)⟩⟩
theorem main_1_1 : Claimed_1_1 := comes_1 fun _ _ _ _ _ _ h hF => ⟨h.1, hF⟩
theorem main_1_2 : Claimed_1_2 := comes_1 fun _ _ _ _ _ _ h hF => ⟨h.2.1, hF⟩
end Jvm.Pilot.@@N@@
namespace Jvm.Pilot.@@N@@
open Jvm Jvm.ClassFile Sem Op Lib Jvm.Free Jvm.Stand Jvm.Pilot.@@N@@.Jvm.D
/-! MADE BY PROGRAM (witnessworld.py) out of the Statement's table words and the real class files: 9 classes; the members and pool entries that the words name. The judged class is class 1, her method 3. -/
namespace start1
open Jvm.ClassFile
def u (s : String) : CpInfo := .utf8 (stringToUtf16 s)
/-- a pool by its gaps: so many unusable entries, then the entry; so many at the end -/
def gap : Nat → List CpInfo → List CpInfo
  | 0, r => r
  | n + 1, r => .unusable :: gap n r
def poolList (es : List (Nat × CpInfo)) (last : Nat) : List CpInfo := es.foldr (fun e r => gap e.1 (e.2 :: r)) (gap last [])
def pool (es : List (Nat × CpInfo)) (last : Nat) : Array CpInfo := ⟨poolList es last⟩
def fileOf (pool : Array CpInfo) (this : Nat) (attrs : Array Attribute := #[]) (ms : Array MethodInfo := #[]) (fl : Nat := 33) (sup : Nat := 0) (ifs : Array Nat := #[]) (fds : Array FieldInfo := #[]) : ClassFile where
  minorVersion := 0
  majorVersion := 65
  constantPool := pool
  accessFlags := fl
  thisClass := this
  superClass := sup
  interfaces := ifs
  fields := fds
  methods := ms
  attributes := attrs
def plain (name : String) (sup : Option ClassId) : Class where
  name := name
  kind := .ordinary
  loader := none
  accessFlags := 33
  super := sup
  interfaces := #[]
  cf := none
  fields := #[]
  methods := #[]
  instanceTypes := #[]
  staticTypes := #[]
  resolved := #[]
  callSites := []
  init := .initialized
  statics := none
  mirror := none

def pool0 : Array CpInfo := pool [(5, u "<init>"), (0, u "()V"), (1, .class_ 10), (1, u "java/lang/Object")] 113

def k0m0 : Method := { name := "<init>", desc := "()V", sig := { parameters := [], returnType := none }, accessFlags := 1, code := none }
/-- java/lang/Object -/
def k0 : Class := { plain "java/lang/Object" none with
  accessFlags := 33
  interfaces := #[]
  cf := some (fileOf pool0 8 #[] #[{ accessFlags := 1, nameIndex := 5, descriptorIndex := 6, attributes := #[] }] 33 0 #[] #[])
  fields := #[]
  methods := #[k0m0]
  instanceTypes := #[]
  staticTypes := #[]
  resolved := Array.replicate 124 none
  statics := none }

def pool1 : Array CpInfo := pool [(2, .class_ 4), (1, u "java/lang/Object"), (0, u "<init>"), (0, u "()V"), (0, .methodref 8 9), (0, .class_ 10), (0, .nameAndType 11 12), (0, u "com/example/drossel/drossel/ProducerIdTableHashPinLaw"), (0, u "unshift"), (0, u "(J)J"), (0, .long 11291846944257947611), (1, .long 5725274745694666757), (1, .methodref 18 19), (0, .class_ 20), (0, .nameAndType 21 12), (0, u "com/example/drossel/drossel/ProducerIdTable"), (0, u "hash"), (0, .methodref 8 23), (0, .nameAndType 24 12), (0, u "unhash"), (2, u "law"), (0, u "(JJ)Z")] 3

def k1m0 : Method := { name := "<init>", desc := "()V", sig := { parameters := [], returnType := none }, accessFlags := 2, code := none }
def k1c1 : Code := { maxStack := 5, maxLocals := 2, code := method_2_code, exceptionTable := #[], attributes := #[] }
def k1m1 : Method := { name := "unshift", desc := "(J)J", sig := { parameters := [.long], returnType := some .long }, accessFlags := 10, code := some k1c1 }
def k1c2 : Code := { maxStack := 4, maxLocals := 4, code := method_3_code, exceptionTable := #[], attributes := #[] }
def k1m2 : Method := { name := "unhash", desc := "(J)J", sig := { parameters := [.long], returnType := some .long }, accessFlags := 10, code := some k1c2 }
def k1c3 : Code := { maxStack := 4, maxLocals := 6, code := code, exceptionTable := #[], attributes := #[] }
def k1m3 : Method := { name := "law", desc := "(JJ)Z", sig := { parameters := [.long, .long], returnType := some .boolean }, accessFlags := 9, code := some k1c3 }
/-- com/example/drossel/drossel/ProducerIdTableHashPinLaw -/
def k1 : Class := { plain "com/example/drossel/drossel/ProducerIdTableHashPinLaw" (some 0) with
  accessFlags := 49
  interfaces := #[]
  cf := some (fileOf pool1 8 #[] #[{ accessFlags := 2, nameIndex := 5, descriptorIndex := 6, attributes := #[] }, { accessFlags := 10, nameIndex := 11, descriptorIndex := 12, attributes := #[] }, { accessFlags := 10, nameIndex := 24, descriptorIndex := 12, attributes := #[] }, { accessFlags := 9, nameIndex := 27, descriptorIndex := 28, attributes := #[] }] 49 2 #[] #[])
  fields := #[]
  methods := #[k1m0, k1m1, k1m2, k1m3]
  instanceTypes := #[]
  staticTypes := #[]
  resolved := Array.replicate 32 none
  statics := none }

def pool2 : Array CpInfo := pool [(2, .class_ 4), (1, u "java/lang/Object"), (3, .class_ 10), (1, u "com/example/drossel/drossel/ProducerIdTable"), (0, u "payloadWidth"), (0, u "I"), (2, u "ids"), (0, u "[J"), (6, u "payloads"), (0, .long 18397679294719823053), (1, .long 14181476777654086739), (7, u "holdsZero"), (0, u "Z"), (2, u "tabled"), (69, u "NO_PAYLOADS"), (2, u "hash"), (0, u "(J)J"), (0, u "MIN_SLOTS"), (2, u "FULLEST_SIXTEENTHS"), (1, u "GROWN_SIXTEENTHS"), (1, u "SHRUNK_SIXTEENTHS"), (1, u "EMPTIEST_SIXTEENTHS"), (1, u "FREE"), (0, u "J")] 39

def k2c0 : Code := { maxStack := 5, maxLocals := 4, code := prog_21_method_2_code, exceptionTable := #[], attributes := #[] }
def k2m0 : Method := { name := "hash", desc := "(J)J", sig := { parameters := [.long], returnType := some .long }, accessFlags := 8, code := some k2c0 }
/-- com/example/drossel/drossel/ProducerIdTable -/
def k2 : Class := { plain "com/example/drossel/drossel/ProducerIdTable" (some 0) with
  accessFlags := 1056
  interfaces := #[]
  cf := some (fileOf pool2 8 #[] #[{ accessFlags := 8, nameIndex := 111, descriptorIndex := 112, attributes := #[] }] 1056 2 #[] #[{ accessFlags := 26, nameIndex := 113, descriptorIndex := 12, attributes := #[] }, { accessFlags := 26, nameIndex := 116, descriptorIndex := 12, attributes := #[] }, { accessFlags := 26, nameIndex := 118, descriptorIndex := 12, attributes := #[] }, { accessFlags := 26, nameIndex := 120, descriptorIndex := 12, attributes := #[] }, { accessFlags := 26, nameIndex := 122, descriptorIndex := 12, attributes := #[] }, { accessFlags := 26, nameIndex := 124, descriptorIndex := 125, attributes := #[] }, { accessFlags := 26, nameIndex := 108, descriptorIndex := 16, attributes := #[] }, { accessFlags := 18, nameIndex := 11, descriptorIndex := 12, attributes := #[] }, { accessFlags := 2, nameIndex := 15, descriptorIndex := 16, attributes := #[] }, { accessFlags := 2, nameIndex := 23, descriptorIndex := 16, attributes := #[] }, { accessFlags := 2, nameIndex := 38, descriptorIndex := 12, attributes := #[] }, { accessFlags := 2, nameIndex := 34, descriptorIndex := 35, attributes := #[] }])
  fields := #[{ name := "MIN_SLOTS", type := .int, accessFlags := 26, slot := 0, constantValue := 0 }, { name := "FULLEST_SIXTEENTHS", type := .int, accessFlags := 26, slot := 1, constantValue := 0 }, { name := "GROWN_SIXTEENTHS", type := .int, accessFlags := 26, slot := 2, constantValue := 0 }, { name := "SHRUNK_SIXTEENTHS", type := .int, accessFlags := 26, slot := 3, constantValue := 0 }, { name := "EMPTIEST_SIXTEENTHS", type := .int, accessFlags := 26, slot := 4, constantValue := 0 }, { name := "FREE", type := .long, accessFlags := 26, slot := 5, constantValue := 0 }, { name := "NO_PAYLOADS", type := (.array .long), accessFlags := 26, slot := 6, constantValue := 0 }, { name := "payloadWidth", type := .int, accessFlags := 18, slot := 0, constantValue := 0 }, { name := "ids", type := (.array .long), accessFlags := 2, slot := 1, constantValue := 0 }, { name := "payloads", type := (.array .long), accessFlags := 2, slot := 2, constantValue := 0 }, { name := "tabled", type := .int, accessFlags := 2, slot := 3, constantValue := 0 }, { name := "holdsZero", type := .boolean, accessFlags := 2, slot := 4, constantValue := 0 }]
  methods := #[k2m0]
  instanceTypes := #[.int, (.array .long), (.array .long), .int, .boolean]
  staticTypes := #[.int, .int, .int, .int, .int, .long, (.array .long)]
  resolved := Array.replicate 165 none
  statics := none }

def pool3 : Array CpInfo := pool [(1, u "java/lang/Cloneable"), (0, .class_ 1), (0, u "java/lang/Object"), (0, .class_ 3)] 3

/-- java/lang/Cloneable -/
def k3 : Class := { plain "java/lang/Cloneable" (some 0) with
  accessFlags := 1537
  interfaces := #[]
  cf := some (fileOf pool3 2 #[] #[] 1537 4 #[] #[])
  fields := #[]
  methods := #[]
  instanceTypes := #[]
  staticTypes := #[]
  resolved := Array.replicate 8 none
  statics := none }

def pool4 : Array CpInfo := pool [(1, u "java/io/Serializable"), (0, .class_ 1), (0, u "java/lang/Object"), (0, .class_ 3)] 3

/-- java/io/Serializable -/
def k4 : Class := { plain "java/io/Serializable" (some 0) with
  accessFlags := 1537
  interfaces := #[]
  cf := some (fileOf pool4 2 #[] #[] 1537 4 #[] #[])
  fields := #[]
  methods := #[]
  instanceTypes := #[]
  staticTypes := #[]
  resolved := Array.replicate 8 none
  statics := none }

/-- the primitive byte -/
def k5 : Class := { plain "byte" none with kind := .primitive 'B', accessFlags := 0x411 }
/-- [B -/
def k6 : Class := { plain "[B" (some 0) with kind := .array 5 .byte, interfaces := #[3, 4], accessFlags := 1041 }

/-- the primitive int -/
def k7 : Class := { plain "int" none with kind := .primitive 'I', accessFlags := 0x411 }
/-- [I -/
def k8 : Class := { plain "[I" (some 0) with kind := .array 7 .int, interfaces := #[3, 4], accessFlags := 1041 }

def heap : Heap := #[]
def classes : Array Class := #[k0, k1, k2, k3, k4, k5, k6, k7, k8]
def interned : List (Array UInt16 × Addr) := []
def slotsUsed : Nat := 0
def theMethod : MethodId := ⟨1, 3⟩
def args0 : Array Value := #[.long 5, .long 7]
def aboutOver (below : List Frame) : State where
  vm := { classes := classes, interned := interned.toArray }
  heap := heap
  slotsUsed := slotsUsed
  threads := #[{ frames := .invoking theMethod args0 :: below }]
def below0 : List Frame := [.native { method := ⟨0, 0⟩, args := #[] }]
def about1 : State := aboutOver below0
def p0 : Program := .bare "" "" ""
def e0 : Env := launch0.env 0 0 0
theorem w_frames : about1.frames = Frame.invoking theMethod args0 :: below0 := rfl
set_option maxRecDepth 65536 in
theorem w_args : argsFit about1.vm theMethod args0 = true := by decide +kernel
set_option maxRecDepth 65536 in
theorem w_heap : heapFits about1 = true := by decide +kernel
set_option maxRecDepth 65536 in
theorem w_runnable : about1.curStatus? = some .runnable := by decide +kernel
set_option maxRecDepth 65536 in
theorem w_alone : about1.alone = true := by decide +kernel
set_option maxRecDepth 65536 in
theorem w_named : about1.methodNamed? x = some theMethod := by decide +kernel
set_option maxRecDepth 65536 in
theorem w_hears : about1.hears theMethod below0 = true := by decide +kernel
set_option maxRecDepth 65536 in
theorem w_ripe : about1.ripe theMethod args0 below0 = true := by decide +kernel
theorem w_running : about1.status = .running := rfl
set_option maxRecDepth 65536 in
theorem w_room : about1.hasRoom e0.platform room_1 = true :=
  launch0.hasRoom_least _ room_1 (by decide +kernel) (by decide +kernel) (by decide +kernel) (by decide +kernel) (by decide +kernel) (by decide +kernel)
theorem allAtoms_all (ts : List Jvm.Cond) (a : Array Jvm.Value) (st : Jvm.State) : (allAtoms ts).before a st = ts.all (fun c => c.before a st) := by
  induction ts with
  | nil => rfl
  | cons c t ih =>
    show (Jvm.Cond.and c (allAtoms t)).before a st = _
    rw [Jvm.Cond.before_and, ih, List.all_cons]
def words1 : List Jvm.Cond := Jvm.Cond.code x code maxLocals ret :: tables_1
/-- a 'code' word, met by the world's own term for the bytes: nothing is compared byte by byte -/
theorem code_word {y : MethodName} {bytes : ByteArray} {mx : Nat} {rt : Option FieldType} {a : Array Value} {s : State} {m : MethodId} {meth : Method} {c : Code} (h1 : s.methodNamed? y = some m) (h2 : s.vm.method? m = some meth) (h3 : meth.code = some c) (h4 : c.code = bytes)
    (h5 : (c.maxLocals == mx && c.exceptionTable.isEmpty && decide (c.maxStack ≤ mostOperands) && decide (meth.sig.returnType = rt) && !meth.locks && decide (parseMethodDescriptor y.desc = some meth.sig)) = true) : (Jvm.Cond.code y bytes mx rt).before a s = true := by
  simp only [Bool.and_eq_true, beq_iff_eq, Bool.not_eq_true', decide_eq_true_eq] at h5
  obtain ⟨⟨⟨⟨⟨g1, g2⟩, g3⟩, g4⟩, g5⟩, g6⟩ := h5
  simp [Cond.before, Cond.holds, Cond.value, h1, h2, h3, h4, g1, g2, g3, g4, g5, g6]
def isCode : Jvm.Cond → Bool
  | .code _ _ _ _ => true
  | _ => false
theorem all_split {L : List Jvm.Cond} {P : Jvm.Cond → Bool} (h1 : L.all (fun c => isCode c || P c) = true) (h2 : ∀ c ∈ L.filter isCode, P c = true) : L.all P = true := by
  refine List.all_eq_true.mpr fun c hc => ?_
  have h := List.all_eq_true.mp h1 c hc
  rcases Bool.eq_false_or_eq_true (isCode c) with hi | hi
  · exact h2 c (List.mem_filter.mpr ⟨hc, hi⟩)
  · simpa [hi] using h
set_option maxRecDepth 65536 in
theorem w_c0 : (Jvm.Cond.code x code maxLocals ret).before args0 about1 = true := code_word (m := ⟨1, 3⟩) (meth := k1m3) (c := k1c3) (by decide +kernel) rfl rfl rfl (by decide +kernel)
set_option maxRecDepth 65536 in
theorem w_c1 : (Jvm.Cond.code ({ cls := "com/example/drossel/drossel/ProducerIdTable", name := "hash", desc := "(J)J" } : Jvm.MethodName) prog_21_method_2_code (4 : Nat) (Option.some Jvm.ClassFile.FieldType.long)).before args0 about1 = true := code_word (m := ⟨2, 0⟩) (meth := k2m0) (c := k2c0) (by decide +kernel) rfl rfl rfl (by decide +kernel)
set_option maxRecDepth 65536 in
theorem w_c2 : (Jvm.Cond.code ({ cls := "com/example/drossel/drossel/ProducerIdTableHashPinLaw", name := "unhash", desc := "(J)J" } : Jvm.MethodName) method_3_code (4 : Nat) (Option.some Jvm.ClassFile.FieldType.long)).before args0 about1 = true := code_word (m := ⟨1, 2⟩) (meth := k1m2) (c := k1c2) (by decide +kernel) rfl rfl rfl (by decide +kernel)
set_option maxRecDepth 65536 in
theorem w_c3 : (Jvm.Cond.code ({ cls := "com/example/drossel/drossel/ProducerIdTableHashPinLaw", name := "unshift", desc := "(J)J" } : Jvm.MethodName) method_2_code (2 : Nat) (Option.some Jvm.ClassFile.FieldType.long)).before args0 about1 = true := code_word (m := ⟨1, 1⟩) (meth := k1m1) (c := k1c1) (by decide +kernel) rfl rfl rfl (by decide +kernel)
def codes1 : List Jvm.Cond := [Jvm.Cond.code x code maxLocals ret, Jvm.Cond.code ({ cls := "com/example/drossel/drossel/ProducerIdTable", name := "hash", desc := "(J)J" } : Jvm.MethodName) prog_21_method_2_code (4 : Nat) (Option.some Jvm.ClassFile.FieldType.long), Jvm.Cond.code ({ cls := "com/example/drossel/drossel/ProducerIdTableHashPinLaw", name := "unhash", desc := "(J)J" } : Jvm.MethodName) method_3_code (4 : Nat) (Option.some Jvm.ClassFile.FieldType.long), Jvm.Cond.code ({ cls := "com/example/drossel/drossel/ProducerIdTableHashPinLaw", name := "unshift", desc := "(J)J" } : Jvm.MethodName) method_2_code (2 : Nat) (Option.some Jvm.ClassFile.FieldType.long)]
set_option maxRecDepth 65536 in
theorem codes_eq : words1.filter isCode = codes1 := rfl
theorem w_codes : ∀ c ∈ words1.filter isCode, c.before args0 about1 = true := by
  rw [codes_eq]
  intro c hc
  simp only [codes1, List.mem_cons, List.not_mem_nil, or_false] at hc
  rcases hc with rfl | rfl | rfl | rfl
  · exact w_c0
  · exact w_c1
  · exact w_c2
  · exact w_c3
set_option maxRecDepth 65536 in
theorem w_t1 : words1.all (fun c => isCode c || c.before args0 about1) = true := by decide +kernel
theorem w_tables : (allAtoms (Jvm.Cond.code x code maxLocals ret :: tables_1)).before args0 about1 = true := by
  rw [allAtoms_all]
  show words1.all (fun c => c.before args0 about1) = true
  refine all_split ?_ w_codes
  rw [w_t1]
set_option maxRecDepth 65536 in
theorem w_case : (Jvm.Cond.and given_1 narrow_1).before args0 about1 = true := by decide +kernel
theorem w_applies : (headSpec (Jvm.Cond.code x code maxLocals ret :: tables_1) room_1).applies x e0.platform about1 = true :=
  (Spec.applies_iff w_frames).mpr ⟨w_running, w_runnable, w_alone, w_named, w_hears, w_ripe, w_room, w_tables⟩
theorem atStart : AtStart classFile x code maxLocals ret World_1 tables_1 room_1 Calls_1 rest_1 Pre_1 launch0 p0 e0 about1 theMethod args0 below0 :=
  ⟨lists_1, trivial, launch0.admits_env _ _ _, launch0.least_env, fairChoices_fair.cas, fairChoices_fair.clock, w_frames, w_args, w_heap, w_applies, trivial, trivial, w_case⟩
end start1
theorem witness_1 : WitnessClaimed_1 := ⟨start1.p0, start1.e0, start1.about1, start1.theMethod, start1.args0, start1.below0, start1.atStart⟩
end Jvm.Pilot.@@N@@
