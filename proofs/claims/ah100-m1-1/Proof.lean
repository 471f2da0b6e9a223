import JvmDerived
import JvmDerived.Pilot.@@N@@Statement
import JvmDerived.Pilot.@@N@@Code
set_option linter.unusedVariables false
set_option linter.unusedSimpArgs false
namespace Jvm.Pilot.@@N@@
open Jvm Jvm.ClassFile Sem Op Lib Jvm.Free Jvm.Stand Jvm.LawKit Jvm.RoadKit Bundle Jvm.Pilot.@@N@@.Jvm.D
/-! the walk's own small kit: a run that ends in a return (own_Ends), a method's contract (own_Con), one step (own_go), the returns, the calls -/
section Own
variable {p : Program} {l : Launch} {e : Env} {R : Room} {s : State} {m : MethodId} {args : Array Value} {below : List Frame} {meth : Method} {c : Code} {T : State} {locs : List Loc} {cells slots : Nat} {Z : State} {a0 : Array Value} {h : Heap} {n0 kc ks : Nat}
def own_Ends (p : Program) (e : Env) (below : List Frame) (s : State) (n0 kc ks : Nat) (T : State) (g : JFrame) (Q : Option Value → Heap → Prop) : Prop :=
  ∃ s₂ o, Steps p.tables e below (T.setTop g) s₂ ∧ s₂.status = .running ∧ Ended s₂ below o ∧ ∃ v L, o = .returned v ∧ (Fr n0 L ∧ Q v s₂.heap) ∧ FrameEnd s o s₂ L kc ks
theorem own_go {T' : State} {g g' : JFrame} {Q : Option Value → Heap → Prop} (k : ∀ t, Steps p.tables e below (T'.setTop g') t → Steps p.tables e below (T.setTop g) t) (q : own_Ends p e below s n0 kc ks T' g' Q) : own_Ends p e below s n0 kc ks T g Q := by
  obtain ⟨s₂, o, h1, r⟩ := q
  exact ⟨s₂, o, k _ h1, r⟩
theorem own_mono {g : JFrame} {Q Q' : Option Value → Heap → Prop} (q : own_Ends p e below s n0 kc ks T g Q) (i : ∀ v h, Q v h → Q' v h) : own_Ends p e below s n0 kc ks T g Q' := by
  obtain ⟨s₂, o, h1, h2, h3, v, L, h4, ⟨h5, h6⟩, h7⟩ := q
  exact ⟨s₂, o, h1, h2, h3, v, L, h4, ⟨h5, i _ _ h6⟩, h7⟩
theorem own_retW (X : Stand p l e R s m args below meth c T locs cells slots) (hx : p.tables.exec = Jvm.exec) (hlk : meth.locks = false) {pc : Nat} {Ls : Array Slot} {w : Value} {t : FieldType} {i : Instr} {rest : List Value} (hret : meth.sig.returnType = some t) (hn : narrow t w = w)
    (hi : (i = .ireturn ∧ (t = .int ∨ t = .boolean ∨ t = .byte ∨ t = .char ∨ t = .short) ∧ ∃ z, w = .int z) ∨ (i = .lreturn ∧ t = .long ∧ ∃ z, w = .long z) ∨ (i = .dreturn ∧ t = .double ∧ ∃ z, w = .double z) ∨ (i = .freturn ∧ t = .float ∧ ∃ z, w = .float z) ∨ (i = .areturn ∧ t.isReference = true ∧ w.isRef = true))
    (hd : decode c.code pc = .ok (i, 1)) {Q : Option Value → Heap → Prop} (hc : cells ≤ kc) (hs : slots ≤ ks) (N : Fr n0 locs) (q : Q (some w) T.heap) : own_Ends p e below s n0 kc ks T (mkF m pc Ls (w :: rest)) Q := by
  obtain ⟨fs, hr, hrun, hended, hW, hsame⟩ := X.leave (v := some w) (fun h => by rw [hret] at h; cases h) hlk
  exact ⟨_, _, retOut X hx hret hn hi hd hr, hrun, hended, _, _, rfl, ⟨N, q⟩, ⟨_, rfl⟩, hW, hsame.mono hc hs⟩
theorem own_retI (X : Stand p l e R s m args below meth c T locs cells slots) (hx : p.tables.exec = Jvm.exec) (hlk : meth.locks = false) {pc : Nat} {Ls : Array Slot} {z : Int32} {rest : List Value} (hret : meth.sig.returnType = some .int)
    (hd : decode c.code pc = .ok (.ireturn, 1)) {Q : Option Value → Heap → Prop} (hc : cells ≤ kc) (hs : slots ≤ ks) (N : Fr n0 locs) (q : Q (some (.int z)) T.heap) : own_Ends p e below s n0 kc ks T (mkF m pc Ls (.int z :: rest)) Q :=
  own_retW X hx hlk hret rfl (Or.inl ⟨rfl, Or.inl rfl, z, rfl⟩) hd hc hs N q
theorem own_retJ (X : Stand p l e R s m args below meth c T locs cells slots) (hx : p.tables.exec = Jvm.exec) (hlk : meth.locks = false) {pc : Nat} {Ls : Array Slot} {z : Int64} {rest : List Value} (hret : meth.sig.returnType = some .long)
    (hd : decode c.code pc = .ok (.lreturn, 1)) {Q : Option Value → Heap → Prop} (hc : cells ≤ kc) (hs : slots ≤ ks) (N : Fr n0 locs) (q : Q (some (.long z)) T.heap) : own_Ends p e below s n0 kc ks T (mkF m pc Ls (.long z :: rest)) Q :=
  own_retW X hx hlk hret rfl (Or.inr (Or.inl ⟨rfl, rfl, z, rfl⟩)) hd hc hs N q
theorem own_retA (X : Stand p l e R s m args below meth c T locs cells slots) (hx : p.tables.exec = Jvm.exec) (hlk : meth.locks = false) {pc : Nat} {Ls : Array Slot} {a : Addr} {t : FieldType} {rest : List Value} (hret : meth.sig.returnType = some t) (ht : t.isReference = true) (hn : narrow t (.ref a) = .ref a)
    (hd : decode c.code pc = .ok (.areturn, 1)) {Q : Option Value → Heap → Prop} (hc : cells ≤ kc) (hs : slots ≤ ks) (N : Fr n0 locs) (q : Q (some (.ref a)) T.heap) : own_Ends p e below s n0 kc ks T (mkF m pc Ls (.ref a :: rest)) Q :=
  own_retW X hx hlk hret hn (Or.inr (Or.inr (Or.inr (Or.inr ⟨rfl, ht, rfl⟩)))) hd hc hs N q
theorem own_retN (X : Stand p l e R s m args below meth c T locs cells slots) (hx : p.tables.exec = Jvm.exec) (hlk : meth.locks = false) {pc : Nat} {Ls : Array Slot} {z : Int32} {t : FieldType} {rest : List Value} (hret : meth.sig.returnType = some t) (ht : t = .boolean ∨ t = .byte ∨ t = .char ∨ t = .short)
    (hd : decode c.code pc = .ok (.ireturn, 1)) {Q : Option Value → Heap → Prop} (hc : cells ≤ kc) (hs : slots ≤ ks) (N : Fr n0 locs) (q : Q (some (.int (nar t z))) T.heap) : own_Ends p e below s n0 kc ks T (mkF m pc Ls (.int z :: rest)) Q := by
  obtain ⟨fs, hr, hrun, hended, hW, hsame⟩ := X.leave (v := some (.int (nar t z))) (fun h => by rw [hret] at h; cases h) hlk
  exact ⟨_, _, retN X hx hret ht hd hr, hrun, hended, _, _, rfl, ⟨N, q⟩, ⟨_, rfl⟩, hW, hsame.mono hc hs⟩
theorem own_retV (X : Stand p l e R s m args below meth c T locs cells slots) (hx : p.tables.exec = Jvm.exec) (hlk : meth.locks = false) {pc : Nat} {Ls : Array Slot} (hret : meth.sig.returnType = none)
    (hd : decode c.code pc = .ok (.return_, 1)) {Q : Option Value → Heap → Prop} (hc : cells ≤ kc) (hs : slots ≤ ks) (N : Fr n0 locs) (q : Q none T.heap) : own_Ends p e below s n0 kc ks T (mkF m pc Ls []) Q := by
  obtain ⟨fs, hr, hrun, hended, hW, hsame⟩ := X.leave (v := none) (fun _ => rfl) hlk
  exact ⟨_, _, X.returnOut hx hret hd hr, hrun, hended, _, _, rfl, ⟨N, q⟩, ⟨_, rfl⟩, hW, hsame.mono hc hs⟩
def own_Con (ws : List Jvm.Cond) (l : Launch) (Z : State) (y : MethodName) (bytes : ByteArray) (maxL : Nat) (ret : Option FieldType) (rm : Room) (n0 : Nat) (as' : Array Value) (h : Heap) (Q : Option Value → Heap → Prop) : Prop :=
  MetFree l y (head1 (Jvm.Cond.code y bytes maxL ret :: ws) rm) (fun a U => a = as' ∧ Z.Warmed39 U.vm ∧ U.heap = h) (fun _ _ _ _ _ => True) (fun _ U o U' => ∃ v L, o = .returned v ∧ (Fr n0 L ∧ Q v U'.heap) ∧ FrameEnd U o U' L rm.cells rm.slots)
theorem own_body {ws : List Jvm.Cond} {y : MethodName} {bytes : ByteArray} {maxL : Nat} {ret : Option FieldType} {rm : Room} {as' : Array Value} {Q : Option Value → Heap → Prop} (hy : plainFor y = true) (fr : MethodId → JFrame) (hfr : ∀ m, entryFrame m as' maxL = fr m)
    (H : ∀ (p : Program) (e : Env) (s : State) (m : MethodId) (below : List Frame) (meth : Method) (c : Code) (s₁ : State), p.tables.exec = Jvm.exec → c.code = bytes → c.maxLocals = maxL → s.vm.findClass y.cls = some m.cls → meth.name = y.name → Z.Warmed39 s.vm → meth.sig.returnType = ret → meth.locks = false →
      Stand p l e rm s m as' below meth c s₁ [] 0 0 → s₁.heap = h → Fr n0 [] → own_Ends p e below s n0 rm.cells rm.slots s₁ (fr m) Q) : own_Con ws l Z y bytes maxL ret rm n0 as' h Q := by
  refine MetFree.of_bodySF hy hisR ?_
  intro p e s m args below meth c s₁ Bd hml0 hP hK
  obtain ⟨rfl, hZ, hh⟩ := hP
  have E := H p e s m below meth c s₁ Bd.exec Bd.bytes hml0 (findClass_of_methodNamed Bd.named) (name_of_methodNamed Bd.named Bd.method).1 hZ Bd.returns Bd.notSynchronized (Stand.of_body Bd) (by rw [← hh, Bd.state]; rfl) (Fr.nil n0)
  rw [← hfr m] at E
  exact E
theorem own_callS (X : Stand p l e R s m args below meth c T locs cells slots) (hx : p.tables.exec = Jvm.exec) (hZ : Z.Warmed39 s.vm) {own : String} {index : Nat} {y : MethodName} {bytes : ByteArray} {maxL : Nat} {ret : Option FieldType}
    (hown : s.vm.findClass own = some m.cls) (w1 : (Jvm.Cond.methodLink own index y).before a0 Z = true) (w2 : (Jvm.Cond.static y).before a0 Z = true) (w3 : (Jvm.Cond.initialized y.cls).before a0 Z = true) (w4 : (Jvm.Cond.code y bytes maxL ret).before a0 Z = true)
    (hy : y.cls ≠ "java/lang/invoke/MethodHandle" ∧ y.cls ≠ "java/lang/invoke/VarHandle") {argsL rest : List Value} {Q : Option Value → Heap → Prop} {rm : Room} (hM : own_Con [] l Z y bytes maxL ret rm n0 argsL.toArray h Q) {W : Nat} (hf : rm.frames + 1 ≤ R.frames) (hl : W + (maxL + 11) + rm.locals ≤ R.locals)
    {g : JFrame} (hg : g.method = m) (hsize : g.locals.size = c.maxLocals) {ps : List FieldType} {r : Option FieldType} (hpd : parseMethodDescriptor y.desc = some ⟨ps, r⟩) (hlen : argsL.length = ps.length) (hstack : g.stack = argsL.reverse ++ rest) (hW : 2 * g.monitorRoom + (rest.map fun v => v.category).sum ≤ W)
    (hd : decode c.code g.pc = .ok (.invokestatic index, 3)) (eT : T.heap = h) (hc : cells + rm.cells ≤ R.cells) (hs : slots + rm.slots ≤ R.slots) (N : Fr n0 locs) :
    ∃ v T' L', Stand p l e R s m args below meth c T' L' (cells + rm.cells) (slots + rm.slots) ∧ Fr n0 L' ∧ Q v T'.heap ∧ ∀ t, Steps p.tables e below (T'.setTop { g with pc := g.pc + 3, stack := v.toList ++ rest }) t → Steps p.tables e below (T.setTop g) t := by
  obtain ⟨v, _, ⟨T', L', k', n'⟩, -, X', ⟨Lc, ⟨hN, hQ⟩, l', y', z'⟩, st⟩ := Jvm.LawKit.callS X hx hown (mvT hZ w1) (mvT hZ w2) (mvT hZ w3) (mvT hZ w4) hy (backOf (Q := fun v h L => Fr n0 L ∧ Q v h) (W := W) hM hZ w4 w3 hf hl) hg hsize (lenOf hpd hlen) hstack hW hd (fun _ _ => ⟨rfl, eT, hc, hs⟩)
  dsimp only [Pt.U, Pt.locs, Pt.cells, Pt.slots] at X' l' y' z' st hQ
  subst l' y' z'
  exact ⟨v, T', _, X', Fr.app N hN, hQ, st⟩
theorem own_callI (X : Stand p l e R s m args below meth c T locs cells slots) (hx : p.tables.exec = Jvm.exec) (hZ : Z.Warmed39 s.vm) {own : String} {index : Nat} {y : MethodName} {bytes : ByteArray} {maxL : Nat}
    (hy1 : y.name = "<init>") (hown : s.vm.findClass own = some m.cls) (w1 : (Jvm.Cond.methodLink own index y).before a0 Z = true) (w2 : (Jvm.Cond.instanceMethod y).before a0 Z = true) (w3 : (Jvm.Cond.initialized y.cls).before a0 Z = true) (w4 : (Jvm.Cond.code y bytes maxL none).before a0 Z = true)
    (hy : y.cls ≠ "java/lang/invoke/MethodHandle" ∧ y.cls ≠ "java/lang/invoke/VarHandle") {a : Addr} {argsL rest : List Value} {Q : Option Value → Heap → Prop} {rm : Room} (hM : own_Con [] l Z y bytes maxL none rm n0 (.ref a :: argsL).toArray h Q) {W : Nat} (hf : rm.frames + 1 ≤ R.frames) (hl : W + (maxL + 11) + rm.locals ≤ R.locals)
    {g : JFrame} (hg : g.method = m) (hsize : g.locals.size = c.maxLocals) {ps : List FieldType} {r : Option FieldType} (hpd : parseMethodDescriptor y.desc = some ⟨ps, r⟩) (hlen : argsL.length = ps.length) (hstack : g.stack = argsL.reverse ++ .ref a :: rest) (hW : 2 * g.monitorRoom + (rest.map fun v => v.category).sum ≤ W)
    (hd : decode c.code g.pc = .ok (.invokespecial index, 3)) (eT : T.heap = h) (hc : cells + rm.cells ≤ R.cells) (hs : slots + rm.slots ≤ R.slots) (N : Fr n0 locs) :
    ∃ v T' L', Stand p l e R s m args below meth c T' L' (cells + rm.cells) (slots + rm.slots) ∧ Fr n0 L' ∧ Q v T'.heap ∧ ∀ t, Steps p.tables e below (T'.setTop { g with pc := g.pc + 3, stack := v.toList ++ rest }) t → Steps p.tables e below (T.setTop g) t := by
  obtain ⟨v, _, ⟨T', L', k', n'⟩, -, X', ⟨Lc, ⟨hN, hQ⟩, l', y', z'⟩, st⟩ := X.specialBack hx hy1 hown (mvT hZ w1) (mvT hZ w2) (mvT hZ w4) hy (backOf (Q := fun v h L => Fr n0 L ∧ Q v h) (W := W) hM hZ w4 w3 hf hl) hg hsize (Steps.refl _) (lenOf hpd hlen) hstack hW hd (fun _ _ => ⟨rfl, eT, hc, hs⟩)
  dsimp only [Pt.U, Pt.locs, Pt.cells, Pt.slots] at X' l' y' z' st hQ
  subst l' y' z'
  exact ⟨v, T', _, X', Fr.app N hN, hQ, fun t k => st.trans k⟩
theorem own_callV (X : Stand p l e R s m args below meth c T locs cells slots) (hx : p.tables.exec = Jvm.exec) (hZ : Z.Warmed39 s.vm) {own C : String} {index : Nat} {y : MethodName} {bytes : ByteArray} {maxL : Nat} {ret : Option FieldType}
    (hown : s.vm.findClass own = some m.cls) (w1 : (Jvm.Cond.methodLink own index y).before a0 Z = true) (wd : (Jvm.Cond.declares y).before a0 Z = true) (ws : (Jvm.Cond.selects C y y).before a0 Z = true) (w2 : (Jvm.Cond.instanceMethod y).before a0 Z = true) (w3 : (Jvm.Cond.initialized y.cls).before a0 Z = true) (w4 : (Jvm.Cond.code y bytes maxL ret).before a0 Z = true)
    (hy : y.cls ≠ "java/lang/invoke/MethodHandle" ∧ y.cls ≠ "java/lang/invoke/VarHandle") {a : Addr} {argsL rest : List Value} {Q : Option Value → Heap → Prop} {rm : Room} (hM : own_Con [] l Z y bytes maxL ret rm n0 (.ref a :: argsL).toArray h Q) {W : Nat} (hf : rm.frames + 1 ≤ R.frames) (hl : W + (maxL + 11) + rm.locals ≤ R.locals)
    (E : Exa Z h a C) {g : JFrame} (hg : g.method = m) (hsize : g.locals.size = c.maxLocals) {ps : List FieldType} {r : Option FieldType} (hpd : parseMethodDescriptor y.desc = some ⟨ps, r⟩) (hlen : argsL.length = ps.length) (hstack : g.stack = argsL.reverse ++ .ref a :: rest) (hW : 2 * g.monitorRoom + (rest.map fun v => v.category).sum ≤ W)
    (hd : decode c.code g.pc = .ok (.invokevirtual index, 3)) (eT : T.heap = h) (hc : cells + rm.cells ≤ R.cells) (hs : slots + rm.slots ≤ R.slots) (N : Fr n0 locs) :
    ∃ v T' L', Stand p l e R s m args below meth c T' L' (cells + rm.cells) (slots + rm.slots) ∧ Fr n0 L' ∧ Q v T'.heap ∧ ∀ t, Steps p.tables e below (T'.setTop { g with pc := g.pc + 3, stack := v.toList ++ rest }) t → Steps p.tables e below (T.setTop g) t := by
  obtain ⟨cq, kq, qa, qb, qc⟩ := isOf hZ eT E
  obtain ⟨v, _, ⟨T', L', k', n'⟩, -, X', ⟨Lc, ⟨hN, hQ⟩, l', y', z'⟩, st⟩ := X.virtualBack hx (z := y) hown (mvT hZ w1) (mvT hZ wd) (notFace_of_selects (args := #[]) (mvT hZ ws)) (mvT hZ ws) (mvT hZ w2) hy (backOf (Q := fun v h L => Fr n0 L ∧ Q v h) (W := W) hM hZ w4 w3 hf hl) qa qc hg hsize (Steps.refl _) (lenOf hpd hlen) hstack hW hd (fun _ _ => ⟨rfl, eT, hc, hs⟩)
  dsimp only [Pt.U, Pt.locs, Pt.cells, Pt.slots] at X' l' y' z' st hQ
  subst l' y' z'
  exact ⟨v, T', _, X', Fr.app N hN, hQ, fun t k => st.trans k⟩
/-! arrays by their values -/
theorem own_ldI (X : Stand p l e R s m args below meth c T locs cells slots) (hx : p.tables.exec = Jvm.exec) (hZ : Z.Warmed39 s.vm) (eT : T.heap = h) {a : Addr} {k : ClassId} {n : Int32} {vs : List Value} {d : Value} (V : Arv Z h a k .int n vs d) {j : Int32} (hj : ¬ j < 0 ∧ j < n) {v : Value} (hv : vs.getD j.toNatClampNeg d = v)
    {g : JFrame} (hg : g.method = m) {rest : List Value} (hs : g.stack = .int j :: .ref a :: rest) (hd : decode c.code g.pc = .ok (.iaload, 1)) : ∀ t, Steps p.tables e below (T.setTop { g with pc := g.pc + 1, stack := v :: rest }) t → Steps p.tables e below (T.setTop g) t := by
  obtain ⟨cl, Ar, -, S, M, H, G⟩ := V
  have hin := inb_of S hj
  exact fun t k => X.iaload hx (by rw [eT]; exact Ar.1) (State.isArrayOf_alike hZ.alike Ar.2.1) Ar.2.2 hin (H.at hin hv) hg hs hd t k
theorem own_ldJ (X : Stand p l e R s m args below meth c T locs cells slots) (hx : p.tables.exec = Jvm.exec) (hZ : Z.Warmed39 s.vm) (eT : T.heap = h) {a : Addr} {k : ClassId} {n : Int32} {vs : List Value} {d : Value} (V : Arv Z h a k .long n vs d) {j : Int32} (hj : ¬ j < 0 ∧ j < n) {v : Value} (hv : vs.getD j.toNatClampNeg d = v)
    {g : JFrame} (hg : g.method = m) {rest : List Value} (hs : g.stack = .int j :: .ref a :: rest) (hd : decode c.code g.pc = .ok (.laload, 1)) : ∀ t, Steps p.tables e below (T.setTop { g with pc := g.pc + 1, stack := v :: rest }) t → Steps p.tables e below (T.setTop g) t := by
  obtain ⟨cl, Ar, -, S, M, H, G⟩ := V
  have hin := inb_of S hj
  exact fun t k => X.laload hx (by rw [eT]; exact Ar.1) (State.isArrayOf_alike hZ.alike Ar.2.1) Ar.2.2 hin (H.at hin hv) hg hs hd t k
theorem own_ldC (X : Stand p l e R s m args below meth c T locs cells slots) (hx : p.tables.exec = Jvm.exec) (hZ : Z.Warmed39 s.vm) (eT : T.heap = h) {a : Addr} {k : ClassId} {n : Int32} {vs : List Value} {d : Value} (V : Arv Z h a k .char n vs d) {j : Int32} (hj : ¬ j < 0 ∧ j < n) {v : Value} (hv : vs.getD j.toNatClampNeg d = v)
    {g : JFrame} (hg : g.method = m) {rest : List Value} (hs : g.stack = .int j :: .ref a :: rest) (hd : decode c.code g.pc = .ok (.caload, 1)) : ∀ t, Steps p.tables e below (T.setTop { g with pc := g.pc + 1, stack := v :: rest }) t → Steps p.tables e below (T.setTop g) t := by
  obtain ⟨cl, Ar, -, S, M, H, G⟩ := V
  have hin := inb_of S hj
  exact fun t k => X.caload hx (by rw [eT]; exact Ar.1) (State.isArrayOf_alike hZ.alike Ar.2.1) Ar.2.2 hin (H.at hin hv) hg hs hd t k
theorem own_ldB (X : Stand p l e R s m args below meth c T locs cells slots) (hx : p.tables.exec = Jvm.exec) (hZ : Z.Warmed39 s.vm) (eT : T.heap = h) {a : Addr} {k : ClassId} {n : Int32} {vs : List Value} {d : Value} (V : Arv Z h a k .byte n vs d) {j : Int32} (hj : ¬ j < 0 ∧ j < n) {v : Value} (hv : vs.getD j.toNatClampNeg d = v)
    {g : JFrame} (hg : g.method = m) {rest : List Value} (hs : g.stack = .int j :: .ref a :: rest) (hd : decode c.code g.pc = .ok (.baload, 1)) : ∀ t, Steps p.tables e below (T.setTop { g with pc := g.pc + 1, stack := v :: rest }) t → Steps p.tables e below (T.setTop g) t := by
  obtain ⟨cl, Ar, -, S, M, H, G⟩ := V
  have hin := inb_of S hj
  exact fun t k => X.baloadBytes hx (by rw [eT]; exact Ar.1) (State.isArrayOf_alike hZ.alike Ar.2.1) Ar.2.2 hin (H.at hin hv) hg hs hd t k
theorem own_len (X : Stand p l e R s m args below meth c T locs cells slots) (hx : p.tables.exec = Jvm.exec) (hZ : Z.Warmed39 s.vm) (eT : T.heap = h) {a : Addr} {k : ClassId} {ty : FieldType} {n : Int32} {vs : List Value} {d : Value} (V : Arv Z h a k ty n vs d)
    {g : JFrame} (hg : g.method = m) {rest : List Value} (hs : g.stack = .ref a :: rest) (hd : decode c.code g.pc = .ok (.arraylength, 1)) : ∀ t, Steps p.tables e below (T.setTop { g with pc := g.pc + 1, stack := .int n :: rest }) t → Steps p.tables e below (T.setTop g) t := by
  obtain ⟨cl, Ar, -, S, M, H, G⟩ := V
  intro t k
  refine X.arraylength hx (by rw [eT]; exact Ar.1) (State.isArrayOf_alike hZ.alike Ar.2.1) hg hs hd _ ?_
  rw [len_of S M]
  exact k
theorem own_stI (X : Stand p l e R s m args below meth c T locs cells slots) (hx : p.tables.exec = Jvm.exec) (hZ : Z.Warmed39 s.vm) (eT : T.heap = h) {a : Addr} {k : ClassId} {n : Int32} {vs : List Value} {d : Value} (V : Arv Z h a k .int n vs d) {j : Int32} (hj : ¬ j < 0 ∧ j < n) (i : Nat) (hi : j.toNatClampNeg = i) (hl : i < vs.length) {x : Int32}
    (N : Fr n0 locs) (ga : n0 ≤ a) {g : JFrame} (hg : g.method = m) {rest : List Value} (hs : g.stack = (.int x) :: .int j :: .ref a :: rest) (hd : decode c.code g.pc = .ok (.iastore, 1)) :
    ∃ T' h' L', Stand p l e R s m args below meth c T' L' cells slots ∧ Fr n0 L' ∧ T'.heap = h' ∧ Wr h h' a i (.int x) ∧ Arv Z h' a k .int n (vs.set i (.int x)) d ∧ ∀ t, Steps p.tables e below (T'.setTop { g with pc := g.pc + 1, stack := rest }) t → Steps p.tables e below (T.setTop g) t := by
  obtain ⟨cl, Ar, q, S, M, H, G⟩ := V
  obtain ⟨T', h', X', e', W, st⟩ := stI X hx hZ eT Ar (inb_of S hj) hg hs hd
  have V' := Arv.set Ar q S M H G rfl W i hi hl
  rw [hi] at W
  exact ⟨T', h', _, X', Fr.snoc X' N ga, e', W, V', st⟩
theorem own_stJ (X : Stand p l e R s m args below meth c T locs cells slots) (hx : p.tables.exec = Jvm.exec) (hZ : Z.Warmed39 s.vm) (eT : T.heap = h) {a : Addr} {k : ClassId} {n : Int32} {vs : List Value} {d : Value} (V : Arv Z h a k .long n vs d) {j : Int32} (hj : ¬ j < 0 ∧ j < n) (i : Nat) (hi : j.toNatClampNeg = i) (hl : i < vs.length) {x : Int64}
    (N : Fr n0 locs) (ga : n0 ≤ a) {g : JFrame} (hg : g.method = m) {rest : List Value} (hs : g.stack = (.long x) :: .int j :: .ref a :: rest) (hd : decode c.code g.pc = .ok (.lastore, 1)) :
    ∃ T' h' L', Stand p l e R s m args below meth c T' L' cells slots ∧ Fr n0 L' ∧ T'.heap = h' ∧ Wr h h' a i (.long x) ∧ Arv Z h' a k .long n (vs.set i (.long x)) d ∧ ∀ t, Steps p.tables e below (T'.setTop { g with pc := g.pc + 1, stack := rest }) t → Steps p.tables e below (T.setTop g) t := by
  obtain ⟨cl, Ar, q, S, M, H, G⟩ := V
  obtain ⟨T', h', X', e', W, st⟩ := stJ X hx hZ eT Ar (inb_of S hj) hg hs hd
  have V' := Arv.set Ar q S M H G rfl W i hi hl
  rw [hi] at W
  exact ⟨T', h', _, X', Fr.snoc X' N ga, e', W, V', st⟩
theorem own_stC (X : Stand p l e R s m args below meth c T locs cells slots) (hx : p.tables.exec = Jvm.exec) (hZ : Z.Warmed39 s.vm) (eT : T.heap = h) {a : Addr} {k : ClassId} {n : Int32} {vs : List Value} {d : Value} (V : Arv Z h a k .char n vs d) {j : Int32} (hj : ¬ j < 0 ∧ j < n) (i : Nat) (hi : j.toNatClampNeg = i) (hl : i < vs.length) {x : Int32}
    (N : Fr n0 locs) (ga : n0 ≤ a) {g : JFrame} (hg : g.method = m) {rest : List Value} (hs : g.stack = (.int x) :: .int j :: .ref a :: rest) (hd : decode c.code g.pc = .ok (.castore, 1)) :
    ∃ T' h' L', Stand p l e R s m args below meth c T' L' cells slots ∧ Fr n0 L' ∧ T'.heap = h' ∧ Wr h h' a i (.int (nar .char x)) ∧ Arv Z h' a k .char n (vs.set i (.int (nar .char x))) d ∧ ∀ t, Steps p.tables e below (T'.setTop { g with pc := g.pc + 1, stack := rest }) t → Steps p.tables e below (T.setTop g) t := by
  obtain ⟨cl, Ar, q, S, M, H, G⟩ := V
  obtain ⟨T', h', X', e', W, st⟩ := stC X hx hZ eT Ar (inb_of S hj) hg hs hd
  have V' := Arv.set Ar q S M H G (fits_nar_char _) W i hi hl
  rw [hi] at W
  exact ⟨T', h', _, X', Fr.snoc X' N ga, e', W, V', st⟩
theorem own_stB (X : Stand p l e R s m args below meth c T locs cells slots) (hx : p.tables.exec = Jvm.exec) (hZ : Z.Warmed39 s.vm) (eT : T.heap = h) {a : Addr} {k : ClassId} {n : Int32} {vs : List Value} {d : Value} (V : Arv Z h a k .byte n vs d) {j : Int32} (hj : ¬ j < 0 ∧ j < n) (i : Nat) (hi : j.toNatClampNeg = i) (hl : i < vs.length) {x : Int32}
    (N : Fr n0 locs) (ga : n0 ≤ a) {g : JFrame} (hg : g.method = m) {rest : List Value} (hs : g.stack = (.int x) :: .int j :: .ref a :: rest) (hd : decode c.code g.pc = .ok (.bastore, 1)) :
    ∃ T' h' L', Stand p l e R s m args below meth c T' L' cells slots ∧ Fr n0 L' ∧ T'.heap = h' ∧ Wr h h' a i (.int (nar .byte x)) ∧ Arv Z h' a k .byte n (vs.set i (.int (nar .byte x))) d ∧ ∀ t, Steps p.tables e below (T'.setTop { g with pc := g.pc + 1, stack := rest }) t → Steps p.tables e below (T.setTop g) t := by
  obtain ⟨cl, Ar, q, S, M, H, G⟩ := V
  obtain ⟨T', h', X', e', W, st⟩ := stB X hx hZ eT Ar (inb_of S hj) hg hs hd
  have V' := Arv.set Ar q S M H G (fits_nar_byte _) W i hi hl
  rw [hi] at W
  exact ⟨T', h', _, X', Fr.snoc X' N ga, e', W, V', st⟩
theorem own_new (X : Stand p l e R s m args below meth c T locs cells slots) (hx : p.tables.exec = Jvm.exec) (hZ : Z.Warmed39 s.vm) {aty : ArrayType} (w : (Jvm.Cond.arrayClass (newarray.typeOf aty)).before a0 Z = true) (eT : T.heap = h) {g : JFrame} (hg : g.method = m) (hd : decode c.code g.pc = .ok (.newarray aty, 2)) {n : Int32} {rest : List Value} (hs : g.stack = .int n :: rest)
    (hn : ¬ n < 0) {cap : Nat} (hcap : n.toNatClampNeg ≤ cap) (hb : cap * 8 ≤ 536870912) (hc : cells + 1 ≤ R.cells) (hl : slots + cap ≤ R.slots) :
    ∃ T' h' k a, a = h.size ∧ Stand p l e R s m args below meth c T' locs (cells + 1) (slots + cap) ∧ T'.heap = h' ∧ Ext h h' ∧ Arv Z h' a k (newarray.typeOf aty) n [] (defaultValue (newarray.typeOf aty)) ∧
      ∀ t, Steps p.tables e below (T'.setTop { g with pc := g.pc + 2, stack := .ref a :: rest }) t → Steps p.tables e below (T.setTop g) t := by
  obtain ⟨T', h', k, X', e', E, A, st⟩ := newP X hx hZ w eT hg hd hs hn hcap hb hc hl
  exact ⟨T', h', k, _, rfl, X', e', E, Arv.new A hn, st⟩
def own_P (z : Value) (h0 : Heap) : Option Value → Heap → Prop := fun v h => v = some z ∧ h = h0
end Own
def f1_158 (p0 : Int32)  : Int32 := (if (983039 : Int32) < p0 then (1 : Int32) else (0 : Int32))
def f1_146 (p0 : Int32)  : Int32 := (if p0 < (65534 : Int32) then (f1_158 p0) else (if (65535 : Int32) < p0 then (f1_158 p0) else (1 : Int32)))
def f1_134 (p0 : Int32)  : Int32 := (if p0 < (64976 : Int32) then (f1_146 p0) else (if (65007 : Int32) < p0 then (f1_146 p0) else (1 : Int32)))
def f1_122 (p0 : Int32)  : Int32 := (if p0 < (55296 : Int32) then (f1_134 p0) else (if (63743 : Int32) < p0 then (f1_134 p0) else (1 : Int32)))
def f1_108 (p0 : Int32)  : Int32 := (if p0 < (12272 : Int32) then (f1_122 p0) else (if (12288 : Int32) < p0 then (f1_122 p0) else (1 : Int32)))
def f1_94 (p0 : Int32)  : Int32 := (if p0 < (8592 : Int32) then (f1_108 p0) else (if (11263 : Int32) < p0 then (f1_108 p0) else (1 : Int32)))
def f1_80 (p0 : Int32)  : Int32 := (if p0 < (8206 : Int32) then (f1_94 p0) else (if (8303 : Int32) < p0 then (f1_94 p0) else (1 : Int32)))
def f1_59 (p0 : Int32)  : Int32 := (if p0 = (894 : Int32) then (1 : Int32) else (if p0 < (8192 : Int32) then (f1_80 p0) else (if (8203 : Int32) < p0 then (f1_80 p0) else (1 : Int32))))
def f1_31 (p0 : Int32)  : Int32 := (if p0 = (215 : Int32) then (1 : Int32) else (if p0 = (247 : Int32) then (1 : Int32) else (if p0 < (768 : Int32) then (f1_59 p0) else (if (879 : Int32) < p0 then (f1_59 p0) else (1 : Int32)))))
def f1_18 (p0 : Int32)  : Int32 := (if p0 < (123 : Int32) then (f1_31 p0) else (if (191 : Int32) < p0 then (f1_31 p0) else (1 : Int32)))
def f1_0 (p0 : Int32) : Int32 := (if p0 < (65 : Int32) then (1 : Int32) else (if p0 < (91 : Int32) then (f1_18 p0) else (if (96 : Int32) < p0 then (f1_18 p0) else (1 : Int32))))
abbrev own_r1 : Room := { frames := 0, cells := 0, slots := 0, locals := 0 }
theorem d1_0 : decode method_2_code 0 = .ok (.iload_n 0, 1) := by decide +kernel
theorem d1_1 : decode method_2_code 1 = .ok (.bipush 65, 2) := by decide +kernel
theorem d1_3 : decode method_2_code 3 = .ok (.if_icmp .lt 161, 3) := by decide +kernel
theorem d1_164 : decode method_2_code 164 = .ok (.iconst 1, 1) := by decide +kernel
theorem d1_165 : decode method_2_code 165 = .ok (.goto 4, 3) := by decide +kernel
theorem d1_169 : decode method_2_code 169 = .ok (.ireturn, 1) := by decide +kernel
theorem d1_6 : decode method_2_code 6 = .ok (.iload_n 0, 1) := by decide +kernel
theorem d1_7 : decode method_2_code 7 = .ok (.bipush 91, 2) := by decide +kernel
theorem d1_9 : decode method_2_code 9 = .ok (.if_icmp .lt 9, 3) := by decide +kernel
theorem d1_18 : decode method_2_code 18 = .ok (.iload_n 0, 1) := by decide +kernel
theorem d1_19 : decode method_2_code 19 = .ok (.bipush 123, 2) := by decide +kernel
theorem d1_21 : decode method_2_code 21 = .ok (.if_icmp .lt 10, 3) := by decide +kernel
theorem d1_31 : decode method_2_code 31 = .ok (.iload_n 0, 1) := by decide +kernel
theorem d1_32 : decode method_2_code 32 = .ok (.sipush 215, 3) := by decide +kernel
theorem d1_35 : decode method_2_code 35 = .ok (.if_icmp .eq 129, 3) := by decide +kernel
theorem d1_38 : decode method_2_code 38 = .ok (.iload_n 0, 1) := by decide +kernel
theorem d1_39 : decode method_2_code 39 = .ok (.sipush 247, 3) := by decide +kernel
theorem d1_42 : decode method_2_code 42 = .ok (.if_icmp .eq 122, 3) := by decide +kernel
theorem d1_45 : decode method_2_code 45 = .ok (.iload_n 0, 1) := by decide +kernel
theorem d1_46 : decode method_2_code 46 = .ok (.sipush 768, 3) := by decide +kernel
theorem d1_49 : decode method_2_code 49 = .ok (.if_icmp .lt 10, 3) := by decide +kernel
theorem d1_59 : decode method_2_code 59 = .ok (.iload_n 0, 1) := by decide +kernel
theorem d1_60 : decode method_2_code 60 = .ok (.sipush 894, 3) := by decide +kernel
theorem d1_63 : decode method_2_code 63 = .ok (.if_icmp .eq 101, 3) := by decide +kernel
theorem d1_66 : decode method_2_code 66 = .ok (.iload_n 0, 1) := by decide +kernel
theorem d1_67 : decode method_2_code 67 = .ok (.sipush 8192, 3) := by decide +kernel
theorem d1_70 : decode method_2_code 70 = .ok (.if_icmp .lt 10, 3) := by decide +kernel
theorem d1_80 : decode method_2_code 80 = .ok (.iload_n 0, 1) := by decide +kernel
theorem d1_81 : decode method_2_code 81 = .ok (.sipush 8206, 3) := by decide +kernel
theorem d1_84 : decode method_2_code 84 = .ok (.if_icmp .lt 10, 3) := by decide +kernel
theorem d1_94 : decode method_2_code 94 = .ok (.iload_n 0, 1) := by decide +kernel
theorem d1_95 : decode method_2_code 95 = .ok (.sipush 8592, 3) := by decide +kernel
theorem d1_98 : decode method_2_code 98 = .ok (.if_icmp .lt 10, 3) := by decide +kernel
theorem d1_108 : decode method_2_code 108 = .ok (.iload_n 0, 1) := by decide +kernel
theorem d1_109 : decode method_2_code 109 = .ok (.sipush 12272, 3) := by decide +kernel
theorem d1_112 : decode method_2_code 112 = .ok (.if_icmp .lt 10, 3) := by decide +kernel
theorem d1_122 : decode method_2_code 122 = .ok (.iload_n 0, 1) := by decide +kernel
theorem d1_123 : decode method_2_code 123 = .ok (.ldc 7, 2) := by decide +kernel
theorem d1_125 : decode method_2_code 125 = .ok (.if_icmp .lt 9, 3) := by decide +kernel
theorem d1_134 : decode method_2_code 134 = .ok (.iload_n 0, 1) := by decide +kernel
theorem d1_135 : decode method_2_code 135 = .ok (.ldc 9, 2) := by decide +kernel
theorem d1_137 : decode method_2_code 137 = .ok (.if_icmp .lt 9, 3) := by decide +kernel
theorem d1_146 : decode method_2_code 146 = .ok (.iload_n 0, 1) := by decide +kernel
theorem d1_147 : decode method_2_code 147 = .ok (.ldc 11, 2) := by decide +kernel
theorem d1_149 : decode method_2_code 149 = .ok (.if_icmp .lt 9, 3) := by decide +kernel
theorem d1_158 : decode method_2_code 158 = .ok (.iload_n 0, 1) := by decide +kernel
theorem d1_159 : decode method_2_code 159 = .ok (.ldc 13, 2) := by decide +kernel
theorem d1_161 : decode method_2_code 161 = .ok (.if_icmp .le 7, 3) := by decide +kernel
theorem d1_168 : decode method_2_code 168 = .ok (.iconst 0, 1) := by decide +kernel
theorem d1_152 : decode method_2_code 152 = .ok (.iload_n 0, 1) := by decide +kernel
theorem d1_153 : decode method_2_code 153 = .ok (.ldc 12, 2) := by decide +kernel
theorem d1_155 : decode method_2_code 155 = .ok (.if_icmp .le 9, 3) := by decide +kernel
theorem d1_140 : decode method_2_code 140 = .ok (.iload_n 0, 1) := by decide +kernel
theorem d1_141 : decode method_2_code 141 = .ok (.ldc 10, 2) := by decide +kernel
theorem d1_143 : decode method_2_code 143 = .ok (.if_icmp .le 21, 3) := by decide +kernel
theorem d1_128 : decode method_2_code 128 = .ok (.iload_n 0, 1) := by decide +kernel
theorem d1_129 : decode method_2_code 129 = .ok (.ldc 8, 2) := by decide +kernel
theorem d1_131 : decode method_2_code 131 = .ok (.if_icmp .le 33, 3) := by decide +kernel
theorem d1_115 : decode method_2_code 115 = .ok (.iload_n 0, 1) := by decide +kernel
theorem d1_116 : decode method_2_code 116 = .ok (.sipush 12288, 3) := by decide +kernel
theorem d1_119 : decode method_2_code 119 = .ok (.if_icmp .le 45, 3) := by decide +kernel
theorem d1_101 : decode method_2_code 101 = .ok (.iload_n 0, 1) := by decide +kernel
theorem d1_102 : decode method_2_code 102 = .ok (.sipush 11263, 3) := by decide +kernel
theorem d1_105 : decode method_2_code 105 = .ok (.if_icmp .le 59, 3) := by decide +kernel
theorem d1_87 : decode method_2_code 87 = .ok (.iload_n 0, 1) := by decide +kernel
theorem d1_88 : decode method_2_code 88 = .ok (.sipush 8303, 3) := by decide +kernel
theorem d1_91 : decode method_2_code 91 = .ok (.if_icmp .le 73, 3) := by decide +kernel
theorem d1_73 : decode method_2_code 73 = .ok (.iload_n 0, 1) := by decide +kernel
theorem d1_74 : decode method_2_code 74 = .ok (.sipush 8203, 3) := by decide +kernel
theorem d1_77 : decode method_2_code 77 = .ok (.if_icmp .le 87, 3) := by decide +kernel
theorem d1_52 : decode method_2_code 52 = .ok (.iload_n 0, 1) := by decide +kernel
theorem d1_53 : decode method_2_code 53 = .ok (.sipush 879, 3) := by decide +kernel
theorem d1_56 : decode method_2_code 56 = .ok (.if_icmp .le 108, 3) := by decide +kernel
theorem d1_24 : decode method_2_code 24 = .ok (.iload_n 0, 1) := by decide +kernel
theorem d1_25 : decode method_2_code 25 = .ok (.sipush 191, 3) := by decide +kernel
theorem d1_28 : decode method_2_code 28 = .ok (.if_icmp .le 136, 3) := by decide +kernel
theorem d1_12 : decode method_2_code 12 = .ok (.iload_n 0, 1) := by decide +kernel
theorem d1_13 : decode method_2_code 13 = .ok (.bipush 96, 2) := by decide +kernel
theorem d1_15 : decode method_2_code 15 = .ok (.if_icmp .le 149, 3) := by decide +kernel
theorem ef_1 (m : MethodId) (p0 : Int32) : entryFrame m #[(.int p0)] 1 = mkF m 0 #[.val (.int p0)] [] := by first | (simp [entryFrame, mkF, argsToLocals, Value.category]; done) | rfl
set_option maxRecDepth 65536 in
set_option maxHeartbeats 40000000 in
theorem rm1 (l : Launch) (Z : State) (a0 : Array Value) (hw : ∀ d ∈ tables_1, d.before a0 Z = true) (p0 : Int32) (h0 : Heap) (n0 : Nat) : own_Con [] l Z (⟨x.cls, "inGap", "(I)Z"⟩ : MethodName) method_2_code 1 (some .boolean) own_r1 n0 #[(.int p0)] h0 (own_P (.int (f1_0 p0)) h0) := by
  refine own_body (plainFor_of_name (by first | (simp [plainName, overriddenIn]; done) | decide +kernel)) (fun m => mkF m 0 #[.val (.int p0)] []) (fun m => ef_1 m p0) ?_
  intro p e s m below meth c s₁ hx hby hml hown hnm hZ hret hlk X0 e0 N0
  have w_f1_158 : ∀ {T : State} {locs : List Loc} (X : Stand p l e own_r1 s m #[(.int p0)] below meth c T locs 0 0) (eT : T.heap = h0) (N : Fr n0 locs), own_Ends p e below s n0 own_r1.cells own_r1.slots T (mkF m 158 #[.val (.int p0)] []) (own_P (.int (f1_158 p0)) h0) := by
    intro T locs X eT N 
    show own_Ends p e below s n0 _ _ _ _ (own_P (.int (if (983039 : Int32) < p0 then (1 : Int32) else (0 : Int32))) h0)
    refine own_go (T' := T) (g' := (mkF m 161 #[.val (.int p0)] [(.int (983039 : Int32)), (.int p0)])) (fun t k => ?_) ?_
    · show Steps p.tables e below (T.setTop (mkF m 158 #[.val (.int p0)] [])) t
      refine XS.iloadN X.here hx rfl (hb hby d1_158) rfl ?_
      show Steps p.tables e below (T.setTop (mkF m 159 #[.val (.int p0)] [(.int p0)])) _
      refine X.ldcInt hx hown (mvT hZ (hw _ (List.mem_of_getElem? (i := 7) rfl))) (g := (mkF m 159 #[.val (.int p0)] [(.int p0)])) rfl (hb hby d1_159) _ ?_
      show Steps p.tables e below (T.setTop (mkF m 161 #[.val (.int p0)] [(.int (983039 : Int32)), (.int p0)])) _
      exact k
    by_cases hc161_15 : (983039 : Int32) < p0
    · rw [if_pos hc161_15]
      refine own_go (T' := T) (g' := (mkF m 164 #[.val (.int p0)] [])) (fun t k => ?_) ?_
      · refine XS.icmpNo X.here hx rfl (hb hby d1_161) rfl (tlt hc161_15).2.2.2 ?_
        exact k
      refine own_go (T' := T) (g' := (mkF m 169 #[.val (.int p0)] [(.int (1 : Int32))])) (fun t k => ?_) ?_
      · show Steps p.tables e below (T.setTop (mkF m 164 #[.val (.int p0)] [])) t
        refine XS.iconst X.here hx rfl (hb hby d1_164) ?_
        show Steps p.tables e below (T.setTop (mkF m 165 #[.val (.int p0)] [(.int (1 : Int32))])) _
        refine XS.goto X.here hx rfl (pc0 := 165) (pc' := 169) rfl (hb hby d1_165) (by decide) (by decide) ?_
        show Steps p.tables e below (T.setTop (mkF m 169 #[.val (.int p0)] [(.int (1 : Int32))])) _
        exact k
      exact own_retN X hx hlk hret (by simp) (hb hby d1_169) (by decide) (by decide) N ⟨rfl, eT⟩
    · rw [if_neg hc161_15]
      refine own_go (T' := T) (g' := (mkF m 168 #[.val (.int p0)] [])) (fun t k => ?_) ?_
      · refine XS.icmpYes X.here hx rfl (pc0 := 161) (pc' := 168) rfl (hb hby d1_161) rfl (flt hc161_15).2.2.2 (by decide) (by decide) ?_
        exact k
      refine own_go (T' := T) (g' := (mkF m 169 #[.val (.int p0)] [(.int (0 : Int32))])) (fun t k => ?_) ?_
      · show Steps p.tables e below (T.setTop (mkF m 168 #[.val (.int p0)] [])) t
        refine XS.iconst X.here hx rfl (hb hby d1_168) ?_
        show Steps p.tables e below (T.setTop (mkF m 169 #[.val (.int p0)] [(.int (0 : Int32))])) _
        exact k
      exact own_retN X hx hlk hret (by simp) (hb hby d1_169) (by decide) (by decide) N ⟨rfl, eT⟩
  have w_f1_146 : ∀ {T : State} {locs : List Loc} (X : Stand p l e own_r1 s m #[(.int p0)] below meth c T locs 0 0) (eT : T.heap = h0) (N : Fr n0 locs), own_Ends p e below s n0 own_r1.cells own_r1.slots T (mkF m 146 #[.val (.int p0)] []) (own_P (.int (f1_146 p0)) h0) := by
    intro T locs X eT N 
    show own_Ends p e below s n0 _ _ _ _ (own_P (.int (if p0 < (65534 : Int32) then (f1_158 p0) else (if (65535 : Int32) < p0 then (f1_158 p0) else (1 : Int32)))) h0)
    refine own_go (T' := T) (g' := (mkF m 149 #[.val (.int p0)] [(.int (65534 : Int32)), (.int p0)])) (fun t k => ?_) ?_
    · show Steps p.tables e below (T.setTop (mkF m 146 #[.val (.int p0)] [])) t
      refine XS.iloadN X.here hx rfl (hb hby d1_146) rfl ?_
      show Steps p.tables e below (T.setTop (mkF m 147 #[.val (.int p0)] [(.int p0)])) _
      refine X.ldcInt hx hown (mvT hZ (hw _ (List.mem_of_getElem? (i := 22) rfl))) (g := (mkF m 147 #[.val (.int p0)] [(.int p0)])) rfl (hb hby d1_147) _ ?_
      show Steps p.tables e below (T.setTop (mkF m 149 #[.val (.int p0)] [(.int (65534 : Int32)), (.int p0)])) _
      exact k
    by_cases hc149_14 : p0 < (65534 : Int32)
    · rw [if_pos hc149_14]
      refine own_go (T' := T) (g' := (mkF m 158 #[.val (.int p0)] [])) (fun t k => ?_) ?_
      · refine XS.icmpYes X.here hx rfl (pc0 := 149) (pc' := 158) rfl (hb hby d1_149) rfl (tlt hc149_14).1 (by decide) (by decide) ?_
        exact k
      exact w_f1_158 X eT N 
    · rw [if_neg hc149_14]
      refine own_go (T' := T) (g' := (mkF m 152 #[.val (.int p0)] [])) (fun t k => ?_) ?_
      · refine XS.icmpNo X.here hx rfl (hb hby d1_149) rfl (flt hc149_14).1 ?_
        exact k
      refine own_go (T' := T) (g' := (mkF m 155 #[.val (.int p0)] [(.int (65535 : Int32)), (.int p0)])) (fun t k => ?_) ?_
      · show Steps p.tables e below (T.setTop (mkF m 152 #[.val (.int p0)] [])) t
        refine XS.iloadN X.here hx rfl (hb hby d1_152) rfl ?_
        show Steps p.tables e below (T.setTop (mkF m 153 #[.val (.int p0)] [(.int p0)])) _
        refine X.ldcInt hx hown (mvT hZ (hw _ (List.mem_of_getElem? (i := 25) rfl))) (g := (mkF m 153 #[.val (.int p0)] [(.int p0)])) rfl (hb hby d1_153) _ ?_
        show Steps p.tables e below (T.setTop (mkF m 155 #[.val (.int p0)] [(.int (65535 : Int32)), (.int p0)])) _
        exact k
      by_cases hc155_16 : (65535 : Int32) < p0
      · rw [if_pos hc155_16]
        refine own_go (T' := T) (g' := (mkF m 158 #[.val (.int p0)] [])) (fun t k => ?_) ?_
        · refine XS.icmpNo X.here hx rfl (hb hby d1_155) rfl (tlt hc155_16).2.2.2 ?_
          exact k
        exact w_f1_158 X eT N 
      · rw [if_neg hc155_16]
        refine own_go (T' := T) (g' := (mkF m 164 #[.val (.int p0)] [])) (fun t k => ?_) ?_
        · refine XS.icmpYes X.here hx rfl (pc0 := 155) (pc' := 164) rfl (hb hby d1_155) rfl (flt hc155_16).2.2.2 (by decide) (by decide) ?_
          exact k
        refine own_go (T' := T) (g' := (mkF m 169 #[.val (.int p0)] [(.int (1 : Int32))])) (fun t k => ?_) ?_
        · show Steps p.tables e below (T.setTop (mkF m 164 #[.val (.int p0)] [])) t
          refine XS.iconst X.here hx rfl (hb hby d1_164) ?_
          show Steps p.tables e below (T.setTop (mkF m 165 #[.val (.int p0)] [(.int (1 : Int32))])) _
          refine XS.goto X.here hx rfl (pc0 := 165) (pc' := 169) rfl (hb hby d1_165) (by decide) (by decide) ?_
          show Steps p.tables e below (T.setTop (mkF m 169 #[.val (.int p0)] [(.int (1 : Int32))])) _
          exact k
        exact own_retN X hx hlk hret (by simp) (hb hby d1_169) (by decide) (by decide) N ⟨rfl, eT⟩
  have w_f1_134 : ∀ {T : State} {locs : List Loc} (X : Stand p l e own_r1 s m #[(.int p0)] below meth c T locs 0 0) (eT : T.heap = h0) (N : Fr n0 locs), own_Ends p e below s n0 own_r1.cells own_r1.slots T (mkF m 134 #[.val (.int p0)] []) (own_P (.int (f1_134 p0)) h0) := by
    intro T locs X eT N 
    show own_Ends p e below s n0 _ _ _ _ (own_P (.int (if p0 < (64976 : Int32) then (f1_146 p0) else (if (65007 : Int32) < p0 then (f1_146 p0) else (1 : Int32)))) h0)
    refine own_go (T' := T) (g' := (mkF m 137 #[.val (.int p0)] [(.int (64976 : Int32)), (.int p0)])) (fun t k => ?_) ?_
    · show Steps p.tables e below (T.setTop (mkF m 134 #[.val (.int p0)] [])) t
      refine XS.iloadN X.here hx rfl (hb hby d1_134) rfl ?_
      show Steps p.tables e below (T.setTop (mkF m 135 #[.val (.int p0)] [(.int p0)])) _
      refine X.ldcInt hx hown (mvT hZ (hw _ (List.mem_of_getElem? (i := 21) rfl))) (g := (mkF m 135 #[.val (.int p0)] [(.int p0)])) rfl (hb hby d1_135) _ ?_
      show Steps p.tables e below (T.setTop (mkF m 137 #[.val (.int p0)] [(.int (64976 : Int32)), (.int p0)])) _
      exact k
    by_cases hc137_13 : p0 < (64976 : Int32)
    · rw [if_pos hc137_13]
      refine own_go (T' := T) (g' := (mkF m 146 #[.val (.int p0)] [])) (fun t k => ?_) ?_
      · refine XS.icmpYes X.here hx rfl (pc0 := 137) (pc' := 146) rfl (hb hby d1_137) rfl (tlt hc137_13).1 (by decide) (by decide) ?_
        exact k
      exact w_f1_146 X eT N 
    · rw [if_neg hc137_13]
      refine own_go (T' := T) (g' := (mkF m 140 #[.val (.int p0)] [])) (fun t k => ?_) ?_
      · refine XS.icmpNo X.here hx rfl (hb hby d1_137) rfl (flt hc137_13).1 ?_
        exact k
      refine own_go (T' := T) (g' := (mkF m 143 #[.val (.int p0)] [(.int (65007 : Int32)), (.int p0)])) (fun t k => ?_) ?_
      · show Steps p.tables e below (T.setTop (mkF m 140 #[.val (.int p0)] [])) t
        refine XS.iloadN X.here hx rfl (hb hby d1_140) rfl ?_
        show Steps p.tables e below (T.setTop (mkF m 141 #[.val (.int p0)] [(.int p0)])) _
        refine X.ldcInt hx hown (mvT hZ (hw _ (List.mem_of_getElem? (i := 24) rfl))) (g := (mkF m 141 #[.val (.int p0)] [(.int p0)])) rfl (hb hby d1_141) _ ?_
        show Steps p.tables e below (T.setTop (mkF m 143 #[.val (.int p0)] [(.int (65007 : Int32)), (.int p0)])) _
        exact k
      by_cases hc143_17 : (65007 : Int32) < p0
      · rw [if_pos hc143_17]
        refine own_go (T' := T) (g' := (mkF m 146 #[.val (.int p0)] [])) (fun t k => ?_) ?_
        · refine XS.icmpNo X.here hx rfl (hb hby d1_143) rfl (tlt hc143_17).2.2.2 ?_
          exact k
        exact w_f1_146 X eT N 
      · rw [if_neg hc143_17]
        refine own_go (T' := T) (g' := (mkF m 164 #[.val (.int p0)] [])) (fun t k => ?_) ?_
        · refine XS.icmpYes X.here hx rfl (pc0 := 143) (pc' := 164) rfl (hb hby d1_143) rfl (flt hc143_17).2.2.2 (by decide) (by decide) ?_
          exact k
        refine own_go (T' := T) (g' := (mkF m 169 #[.val (.int p0)] [(.int (1 : Int32))])) (fun t k => ?_) ?_
        · show Steps p.tables e below (T.setTop (mkF m 164 #[.val (.int p0)] [])) t
          refine XS.iconst X.here hx rfl (hb hby d1_164) ?_
          show Steps p.tables e below (T.setTop (mkF m 165 #[.val (.int p0)] [(.int (1 : Int32))])) _
          refine XS.goto X.here hx rfl (pc0 := 165) (pc' := 169) rfl (hb hby d1_165) (by decide) (by decide) ?_
          show Steps p.tables e below (T.setTop (mkF m 169 #[.val (.int p0)] [(.int (1 : Int32))])) _
          exact k
        exact own_retN X hx hlk hret (by simp) (hb hby d1_169) (by decide) (by decide) N ⟨rfl, eT⟩
  have w_f1_122 : ∀ {T : State} {locs : List Loc} (X : Stand p l e own_r1 s m #[(.int p0)] below meth c T locs 0 0) (eT : T.heap = h0) (N : Fr n0 locs), own_Ends p e below s n0 own_r1.cells own_r1.slots T (mkF m 122 #[.val (.int p0)] []) (own_P (.int (f1_122 p0)) h0) := by
    intro T locs X eT N 
    show own_Ends p e below s n0 _ _ _ _ (own_P (.int (if p0 < (55296 : Int32) then (f1_134 p0) else (if (63743 : Int32) < p0 then (f1_134 p0) else (1 : Int32)))) h0)
    refine own_go (T' := T) (g' := (mkF m 125 #[.val (.int p0)] [(.int (55296 : Int32)), (.int p0)])) (fun t k => ?_) ?_
    · show Steps p.tables e below (T.setTop (mkF m 122 #[.val (.int p0)] [])) t
      refine XS.iloadN X.here hx rfl (hb hby d1_122) rfl ?_
      show Steps p.tables e below (T.setTop (mkF m 123 #[.val (.int p0)] [(.int p0)])) _
      refine X.ldcInt hx hown (mvT hZ (hw _ (List.mem_of_getElem? (i := 20) rfl))) (g := (mkF m 123 #[.val (.int p0)] [(.int p0)])) rfl (hb hby d1_123) _ ?_
      show Steps p.tables e below (T.setTop (mkF m 125 #[.val (.int p0)] [(.int (55296 : Int32)), (.int p0)])) _
      exact k
    by_cases hc125_12 : p0 < (55296 : Int32)
    · rw [if_pos hc125_12]
      refine own_go (T' := T) (g' := (mkF m 134 #[.val (.int p0)] [])) (fun t k => ?_) ?_
      · refine XS.icmpYes X.here hx rfl (pc0 := 125) (pc' := 134) rfl (hb hby d1_125) rfl (tlt hc125_12).1 (by decide) (by decide) ?_
        exact k
      exact w_f1_134 X eT N 
    · rw [if_neg hc125_12]
      refine own_go (T' := T) (g' := (mkF m 128 #[.val (.int p0)] [])) (fun t k => ?_) ?_
      · refine XS.icmpNo X.here hx rfl (hb hby d1_125) rfl (flt hc125_12).1 ?_
        exact k
      refine own_go (T' := T) (g' := (mkF m 131 #[.val (.int p0)] [(.int (63743 : Int32)), (.int p0)])) (fun t k => ?_) ?_
      · show Steps p.tables e below (T.setTop (mkF m 128 #[.val (.int p0)] [])) t
        refine XS.iloadN X.here hx rfl (hb hby d1_128) rfl ?_
        show Steps p.tables e below (T.setTop (mkF m 129 #[.val (.int p0)] [(.int p0)])) _
        refine X.ldcInt hx hown (mvT hZ (hw _ (List.mem_of_getElem? (i := 23) rfl))) (g := (mkF m 129 #[.val (.int p0)] [(.int p0)])) rfl (hb hby d1_129) _ ?_
        show Steps p.tables e below (T.setTop (mkF m 131 #[.val (.int p0)] [(.int (63743 : Int32)), (.int p0)])) _
        exact k
      by_cases hc131_18 : (63743 : Int32) < p0
      · rw [if_pos hc131_18]
        refine own_go (T' := T) (g' := (mkF m 134 #[.val (.int p0)] [])) (fun t k => ?_) ?_
        · refine XS.icmpNo X.here hx rfl (hb hby d1_131) rfl (tlt hc131_18).2.2.2 ?_
          exact k
        exact w_f1_134 X eT N 
      · rw [if_neg hc131_18]
        refine own_go (T' := T) (g' := (mkF m 164 #[.val (.int p0)] [])) (fun t k => ?_) ?_
        · refine XS.icmpYes X.here hx rfl (pc0 := 131) (pc' := 164) rfl (hb hby d1_131) rfl (flt hc131_18).2.2.2 (by decide) (by decide) ?_
          exact k
        refine own_go (T' := T) (g' := (mkF m 169 #[.val (.int p0)] [(.int (1 : Int32))])) (fun t k => ?_) ?_
        · show Steps p.tables e below (T.setTop (mkF m 164 #[.val (.int p0)] [])) t
          refine XS.iconst X.here hx rfl (hb hby d1_164) ?_
          show Steps p.tables e below (T.setTop (mkF m 165 #[.val (.int p0)] [(.int (1 : Int32))])) _
          refine XS.goto X.here hx rfl (pc0 := 165) (pc' := 169) rfl (hb hby d1_165) (by decide) (by decide) ?_
          show Steps p.tables e below (T.setTop (mkF m 169 #[.val (.int p0)] [(.int (1 : Int32))])) _
          exact k
        exact own_retN X hx hlk hret (by simp) (hb hby d1_169) (by decide) (by decide) N ⟨rfl, eT⟩
  have w_f1_108 : ∀ {T : State} {locs : List Loc} (X : Stand p l e own_r1 s m #[(.int p0)] below meth c T locs 0 0) (eT : T.heap = h0) (N : Fr n0 locs), own_Ends p e below s n0 own_r1.cells own_r1.slots T (mkF m 108 #[.val (.int p0)] []) (own_P (.int (f1_108 p0)) h0) := by
    intro T locs X eT N 
    show own_Ends p e below s n0 _ _ _ _ (own_P (.int (if p0 < (12272 : Int32) then (f1_122 p0) else (if (12288 : Int32) < p0 then (f1_122 p0) else (1 : Int32)))) h0)
    refine own_go (T' := T) (g' := (mkF m 112 #[.val (.int p0)] [(.int (12272 : Int32)), (.int p0)])) (fun t k => ?_) ?_
    · show Steps p.tables e below (T.setTop (mkF m 108 #[.val (.int p0)] [])) t
      refine XS.iloadN X.here hx rfl (hb hby d1_108) rfl ?_
      show Steps p.tables e below (T.setTop (mkF m 109 #[.val (.int p0)] [(.int p0)])) _
      refine XS.sipush X.here hx rfl (hb hby d1_109) ?_
      show Steps p.tables e below (T.setTop (mkF m 112 #[.val (.int p0)] [(.int (12272 : Int32)), (.int p0)])) _
      exact k
    by_cases hc112_11 : p0 < (12272 : Int32)
    · rw [if_pos hc112_11]
      refine own_go (T' := T) (g' := (mkF m 122 #[.val (.int p0)] [])) (fun t k => ?_) ?_
      · refine XS.icmpYes X.here hx rfl (pc0 := 112) (pc' := 122) rfl (hb hby d1_112) rfl (tlt hc112_11).1 (by decide) (by decide) ?_
        exact k
      exact w_f1_122 X eT N 
    · rw [if_neg hc112_11]
      refine own_go (T' := T) (g' := (mkF m 115 #[.val (.int p0)] [])) (fun t k => ?_) ?_
      · refine XS.icmpNo X.here hx rfl (hb hby d1_112) rfl (flt hc112_11).1 ?_
        exact k
      refine own_go (T' := T) (g' := (mkF m 119 #[.val (.int p0)] [(.int (12288 : Int32)), (.int p0)])) (fun t k => ?_) ?_
      · show Steps p.tables e below (T.setTop (mkF m 115 #[.val (.int p0)] [])) t
        refine XS.iloadN X.here hx rfl (hb hby d1_115) rfl ?_
        show Steps p.tables e below (T.setTop (mkF m 116 #[.val (.int p0)] [(.int p0)])) _
        refine XS.sipush X.here hx rfl (hb hby d1_116) ?_
        show Steps p.tables e below (T.setTop (mkF m 119 #[.val (.int p0)] [(.int (12288 : Int32)), (.int p0)])) _
        exact k
      by_cases hc119_19 : (12288 : Int32) < p0
      · rw [if_pos hc119_19]
        refine own_go (T' := T) (g' := (mkF m 122 #[.val (.int p0)] [])) (fun t k => ?_) ?_
        · refine XS.icmpNo X.here hx rfl (hb hby d1_119) rfl (tlt hc119_19).2.2.2 ?_
          exact k
        exact w_f1_122 X eT N 
      · rw [if_neg hc119_19]
        refine own_go (T' := T) (g' := (mkF m 164 #[.val (.int p0)] [])) (fun t k => ?_) ?_
        · refine XS.icmpYes X.here hx rfl (pc0 := 119) (pc' := 164) rfl (hb hby d1_119) rfl (flt hc119_19).2.2.2 (by decide) (by decide) ?_
          exact k
        refine own_go (T' := T) (g' := (mkF m 169 #[.val (.int p0)] [(.int (1 : Int32))])) (fun t k => ?_) ?_
        · show Steps p.tables e below (T.setTop (mkF m 164 #[.val (.int p0)] [])) t
          refine XS.iconst X.here hx rfl (hb hby d1_164) ?_
          show Steps p.tables e below (T.setTop (mkF m 165 #[.val (.int p0)] [(.int (1 : Int32))])) _
          refine XS.goto X.here hx rfl (pc0 := 165) (pc' := 169) rfl (hb hby d1_165) (by decide) (by decide) ?_
          show Steps p.tables e below (T.setTop (mkF m 169 #[.val (.int p0)] [(.int (1 : Int32))])) _
          exact k
        exact own_retN X hx hlk hret (by simp) (hb hby d1_169) (by decide) (by decide) N ⟨rfl, eT⟩
  have w_f1_94 : ∀ {T : State} {locs : List Loc} (X : Stand p l e own_r1 s m #[(.int p0)] below meth c T locs 0 0) (eT : T.heap = h0) (N : Fr n0 locs), own_Ends p e below s n0 own_r1.cells own_r1.slots T (mkF m 94 #[.val (.int p0)] []) (own_P (.int (f1_94 p0)) h0) := by
    intro T locs X eT N 
    show own_Ends p e below s n0 _ _ _ _ (own_P (.int (if p0 < (8592 : Int32) then (f1_108 p0) else (if (11263 : Int32) < p0 then (f1_108 p0) else (1 : Int32)))) h0)
    refine own_go (T' := T) (g' := (mkF m 98 #[.val (.int p0)] [(.int (8592 : Int32)), (.int p0)])) (fun t k => ?_) ?_
    · show Steps p.tables e below (T.setTop (mkF m 94 #[.val (.int p0)] [])) t
      refine XS.iloadN X.here hx rfl (hb hby d1_94) rfl ?_
      show Steps p.tables e below (T.setTop (mkF m 95 #[.val (.int p0)] [(.int p0)])) _
      refine XS.sipush X.here hx rfl (hb hby d1_95) ?_
      show Steps p.tables e below (T.setTop (mkF m 98 #[.val (.int p0)] [(.int (8592 : Int32)), (.int p0)])) _
      exact k
    by_cases hc98_10 : p0 < (8592 : Int32)
    · rw [if_pos hc98_10]
      refine own_go (T' := T) (g' := (mkF m 108 #[.val (.int p0)] [])) (fun t k => ?_) ?_
      · refine XS.icmpYes X.here hx rfl (pc0 := 98) (pc' := 108) rfl (hb hby d1_98) rfl (tlt hc98_10).1 (by decide) (by decide) ?_
        exact k
      exact w_f1_108 X eT N 
    · rw [if_neg hc98_10]
      refine own_go (T' := T) (g' := (mkF m 101 #[.val (.int p0)] [])) (fun t k => ?_) ?_
      · refine XS.icmpNo X.here hx rfl (hb hby d1_98) rfl (flt hc98_10).1 ?_
        exact k
      refine own_go (T' := T) (g' := (mkF m 105 #[.val (.int p0)] [(.int (11263 : Int32)), (.int p0)])) (fun t k => ?_) ?_
      · show Steps p.tables e below (T.setTop (mkF m 101 #[.val (.int p0)] [])) t
        refine XS.iloadN X.here hx rfl (hb hby d1_101) rfl ?_
        show Steps p.tables e below (T.setTop (mkF m 102 #[.val (.int p0)] [(.int p0)])) _
        refine XS.sipush X.here hx rfl (hb hby d1_102) ?_
        show Steps p.tables e below (T.setTop (mkF m 105 #[.val (.int p0)] [(.int (11263 : Int32)), (.int p0)])) _
        exact k
      by_cases hc105_20 : (11263 : Int32) < p0
      · rw [if_pos hc105_20]
        refine own_go (T' := T) (g' := (mkF m 108 #[.val (.int p0)] [])) (fun t k => ?_) ?_
        · refine XS.icmpNo X.here hx rfl (hb hby d1_105) rfl (tlt hc105_20).2.2.2 ?_
          exact k
        exact w_f1_108 X eT N 
      · rw [if_neg hc105_20]
        refine own_go (T' := T) (g' := (mkF m 164 #[.val (.int p0)] [])) (fun t k => ?_) ?_
        · refine XS.icmpYes X.here hx rfl (pc0 := 105) (pc' := 164) rfl (hb hby d1_105) rfl (flt hc105_20).2.2.2 (by decide) (by decide) ?_
          exact k
        refine own_go (T' := T) (g' := (mkF m 169 #[.val (.int p0)] [(.int (1 : Int32))])) (fun t k => ?_) ?_
        · show Steps p.tables e below (T.setTop (mkF m 164 #[.val (.int p0)] [])) t
          refine XS.iconst X.here hx rfl (hb hby d1_164) ?_
          show Steps p.tables e below (T.setTop (mkF m 165 #[.val (.int p0)] [(.int (1 : Int32))])) _
          refine XS.goto X.here hx rfl (pc0 := 165) (pc' := 169) rfl (hb hby d1_165) (by decide) (by decide) ?_
          show Steps p.tables e below (T.setTop (mkF m 169 #[.val (.int p0)] [(.int (1 : Int32))])) _
          exact k
        exact own_retN X hx hlk hret (by simp) (hb hby d1_169) (by decide) (by decide) N ⟨rfl, eT⟩
  have w_f1_80 : ∀ {T : State} {locs : List Loc} (X : Stand p l e own_r1 s m #[(.int p0)] below meth c T locs 0 0) (eT : T.heap = h0) (N : Fr n0 locs), own_Ends p e below s n0 own_r1.cells own_r1.slots T (mkF m 80 #[.val (.int p0)] []) (own_P (.int (f1_80 p0)) h0) := by
    intro T locs X eT N 
    show own_Ends p e below s n0 _ _ _ _ (own_P (.int (if p0 < (8206 : Int32) then (f1_94 p0) else (if (8303 : Int32) < p0 then (f1_94 p0) else (1 : Int32)))) h0)
    refine own_go (T' := T) (g' := (mkF m 84 #[.val (.int p0)] [(.int (8206 : Int32)), (.int p0)])) (fun t k => ?_) ?_
    · show Steps p.tables e below (T.setTop (mkF m 80 #[.val (.int p0)] [])) t
      refine XS.iloadN X.here hx rfl (hb hby d1_80) rfl ?_
      show Steps p.tables e below (T.setTop (mkF m 81 #[.val (.int p0)] [(.int p0)])) _
      refine XS.sipush X.here hx rfl (hb hby d1_81) ?_
      show Steps p.tables e below (T.setTop (mkF m 84 #[.val (.int p0)] [(.int (8206 : Int32)), (.int p0)])) _
      exact k
    by_cases hc84_9 : p0 < (8206 : Int32)
    · rw [if_pos hc84_9]
      refine own_go (T' := T) (g' := (mkF m 94 #[.val (.int p0)] [])) (fun t k => ?_) ?_
      · refine XS.icmpYes X.here hx rfl (pc0 := 84) (pc' := 94) rfl (hb hby d1_84) rfl (tlt hc84_9).1 (by decide) (by decide) ?_
        exact k
      exact w_f1_94 X eT N 
    · rw [if_neg hc84_9]
      refine own_go (T' := T) (g' := (mkF m 87 #[.val (.int p0)] [])) (fun t k => ?_) ?_
      · refine XS.icmpNo X.here hx rfl (hb hby d1_84) rfl (flt hc84_9).1 ?_
        exact k
      refine own_go (T' := T) (g' := (mkF m 91 #[.val (.int p0)] [(.int (8303 : Int32)), (.int p0)])) (fun t k => ?_) ?_
      · show Steps p.tables e below (T.setTop (mkF m 87 #[.val (.int p0)] [])) t
        refine XS.iloadN X.here hx rfl (hb hby d1_87) rfl ?_
        show Steps p.tables e below (T.setTop (mkF m 88 #[.val (.int p0)] [(.int p0)])) _
        refine XS.sipush X.here hx rfl (hb hby d1_88) ?_
        show Steps p.tables e below (T.setTop (mkF m 91 #[.val (.int p0)] [(.int (8303 : Int32)), (.int p0)])) _
        exact k
      by_cases hc91_21 : (8303 : Int32) < p0
      · rw [if_pos hc91_21]
        refine own_go (T' := T) (g' := (mkF m 94 #[.val (.int p0)] [])) (fun t k => ?_) ?_
        · refine XS.icmpNo X.here hx rfl (hb hby d1_91) rfl (tlt hc91_21).2.2.2 ?_
          exact k
        exact w_f1_94 X eT N 
      · rw [if_neg hc91_21]
        refine own_go (T' := T) (g' := (mkF m 164 #[.val (.int p0)] [])) (fun t k => ?_) ?_
        · refine XS.icmpYes X.here hx rfl (pc0 := 91) (pc' := 164) rfl (hb hby d1_91) rfl (flt hc91_21).2.2.2 (by decide) (by decide) ?_
          exact k
        refine own_go (T' := T) (g' := (mkF m 169 #[.val (.int p0)] [(.int (1 : Int32))])) (fun t k => ?_) ?_
        · show Steps p.tables e below (T.setTop (mkF m 164 #[.val (.int p0)] [])) t
          refine XS.iconst X.here hx rfl (hb hby d1_164) ?_
          show Steps p.tables e below (T.setTop (mkF m 165 #[.val (.int p0)] [(.int (1 : Int32))])) _
          refine XS.goto X.here hx rfl (pc0 := 165) (pc' := 169) rfl (hb hby d1_165) (by decide) (by decide) ?_
          show Steps p.tables e below (T.setTop (mkF m 169 #[.val (.int p0)] [(.int (1 : Int32))])) _
          exact k
        exact own_retN X hx hlk hret (by simp) (hb hby d1_169) (by decide) (by decide) N ⟨rfl, eT⟩
  have w_f1_59 : ∀ {T : State} {locs : List Loc} (X : Stand p l e own_r1 s m #[(.int p0)] below meth c T locs 0 0) (eT : T.heap = h0) (N : Fr n0 locs), own_Ends p e below s n0 own_r1.cells own_r1.slots T (mkF m 59 #[.val (.int p0)] []) (own_P (.int (f1_59 p0)) h0) := by
    intro T locs X eT N 
    show own_Ends p e below s n0 _ _ _ _ (own_P (.int (if p0 = (894 : Int32) then (1 : Int32) else (if p0 < (8192 : Int32) then (f1_80 p0) else (if (8203 : Int32) < p0 then (f1_80 p0) else (1 : Int32))))) h0)
    refine own_go (T' := T) (g' := (mkF m 63 #[.val (.int p0)] [(.int (894 : Int32)), (.int p0)])) (fun t k => ?_) ?_
    · show Steps p.tables e below (T.setTop (mkF m 59 #[.val (.int p0)] [])) t
      refine XS.iloadN X.here hx rfl (hb hby d1_59) rfl ?_
      show Steps p.tables e below (T.setTop (mkF m 60 #[.val (.int p0)] [(.int p0)])) _
      refine XS.sipush X.here hx rfl (hb hby d1_60) ?_
      show Steps p.tables e below (T.setTop (mkF m 63 #[.val (.int p0)] [(.int (894 : Int32)), (.int p0)])) _
      exact k
    by_cases hc63_7 : p0 = (894 : Int32)
    · rw [if_pos hc63_7]
      refine own_go (T' := T) (g' := (mkF m 164 #[.val (.int p0)] [])) (fun t k => ?_) ?_
      · refine XS.icmpYes X.here hx rfl (pc0 := 63) (pc' := 164) rfl (hb hby d1_63) rfl (teq hc63_7).1 (by decide) (by decide) ?_
        exact k
      refine own_go (T' := T) (g' := (mkF m 169 #[.val (.int p0)] [(.int (1 : Int32))])) (fun t k => ?_) ?_
      · show Steps p.tables e below (T.setTop (mkF m 164 #[.val (.int p0)] [])) t
        refine XS.iconst X.here hx rfl (hb hby d1_164) ?_
        show Steps p.tables e below (T.setTop (mkF m 165 #[.val (.int p0)] [(.int (1 : Int32))])) _
        refine XS.goto X.here hx rfl (pc0 := 165) (pc' := 169) rfl (hb hby d1_165) (by decide) (by decide) ?_
        show Steps p.tables e below (T.setTop (mkF m 169 #[.val (.int p0)] [(.int (1 : Int32))])) _
        exact k
      exact own_retN X hx hlk hret (by simp) (hb hby d1_169) (by decide) (by decide) N ⟨rfl, eT⟩
    · rw [if_neg hc63_7]
      refine own_go (T' := T) (g' := (mkF m 66 #[.val (.int p0)] [])) (fun t k => ?_) ?_
      · refine XS.icmpNo X.here hx rfl (hb hby d1_63) rfl (feq hc63_7).1 ?_
        exact k
      refine own_go (T' := T) (g' := (mkF m 70 #[.val (.int p0)] [(.int (8192 : Int32)), (.int p0)])) (fun t k => ?_) ?_
      · show Steps p.tables e below (T.setTop (mkF m 66 #[.val (.int p0)] [])) t
        refine XS.iloadN X.here hx rfl (hb hby d1_66) rfl ?_
        show Steps p.tables e below (T.setTop (mkF m 67 #[.val (.int p0)] [(.int p0)])) _
        refine XS.sipush X.here hx rfl (hb hby d1_67) ?_
        show Steps p.tables e below (T.setTop (mkF m 70 #[.val (.int p0)] [(.int (8192 : Int32)), (.int p0)])) _
        exact k
      by_cases hc70_8 : p0 < (8192 : Int32)
      · rw [if_pos hc70_8]
        refine own_go (T' := T) (g' := (mkF m 80 #[.val (.int p0)] [])) (fun t k => ?_) ?_
        · refine XS.icmpYes X.here hx rfl (pc0 := 70) (pc' := 80) rfl (hb hby d1_70) rfl (tlt hc70_8).1 (by decide) (by decide) ?_
          exact k
        exact w_f1_80 X eT N 
      · rw [if_neg hc70_8]
        refine own_go (T' := T) (g' := (mkF m 73 #[.val (.int p0)] [])) (fun t k => ?_) ?_
        · refine XS.icmpNo X.here hx rfl (hb hby d1_70) rfl (flt hc70_8).1 ?_
          exact k
        refine own_go (T' := T) (g' := (mkF m 77 #[.val (.int p0)] [(.int (8203 : Int32)), (.int p0)])) (fun t k => ?_) ?_
        · show Steps p.tables e below (T.setTop (mkF m 73 #[.val (.int p0)] [])) t
          refine XS.iloadN X.here hx rfl (hb hby d1_73) rfl ?_
          show Steps p.tables e below (T.setTop (mkF m 74 #[.val (.int p0)] [(.int p0)])) _
          refine XS.sipush X.here hx rfl (hb hby d1_74) ?_
          show Steps p.tables e below (T.setTop (mkF m 77 #[.val (.int p0)] [(.int (8203 : Int32)), (.int p0)])) _
          exact k
        by_cases hc77_22 : (8203 : Int32) < p0
        · rw [if_pos hc77_22]
          refine own_go (T' := T) (g' := (mkF m 80 #[.val (.int p0)] [])) (fun t k => ?_) ?_
          · refine XS.icmpNo X.here hx rfl (hb hby d1_77) rfl (tlt hc77_22).2.2.2 ?_
            exact k
          exact w_f1_80 X eT N 
        · rw [if_neg hc77_22]
          refine own_go (T' := T) (g' := (mkF m 164 #[.val (.int p0)] [])) (fun t k => ?_) ?_
          · refine XS.icmpYes X.here hx rfl (pc0 := 77) (pc' := 164) rfl (hb hby d1_77) rfl (flt hc77_22).2.2.2 (by decide) (by decide) ?_
            exact k
          refine own_go (T' := T) (g' := (mkF m 169 #[.val (.int p0)] [(.int (1 : Int32))])) (fun t k => ?_) ?_
          · show Steps p.tables e below (T.setTop (mkF m 164 #[.val (.int p0)] [])) t
            refine XS.iconst X.here hx rfl (hb hby d1_164) ?_
            show Steps p.tables e below (T.setTop (mkF m 165 #[.val (.int p0)] [(.int (1 : Int32))])) _
            refine XS.goto X.here hx rfl (pc0 := 165) (pc' := 169) rfl (hb hby d1_165) (by decide) (by decide) ?_
            show Steps p.tables e below (T.setTop (mkF m 169 #[.val (.int p0)] [(.int (1 : Int32))])) _
            exact k
          exact own_retN X hx hlk hret (by simp) (hb hby d1_169) (by decide) (by decide) N ⟨rfl, eT⟩
  have w_f1_31 : ∀ {T : State} {locs : List Loc} (X : Stand p l e own_r1 s m #[(.int p0)] below meth c T locs 0 0) (eT : T.heap = h0) (N : Fr n0 locs), own_Ends p e below s n0 own_r1.cells own_r1.slots T (mkF m 31 #[.val (.int p0)] []) (own_P (.int (f1_31 p0)) h0) := by
    intro T locs X eT N 
    show own_Ends p e below s n0 _ _ _ _ (own_P (.int (if p0 = (215 : Int32) then (1 : Int32) else (if p0 = (247 : Int32) then (1 : Int32) else (if p0 < (768 : Int32) then (f1_59 p0) else (if (879 : Int32) < p0 then (f1_59 p0) else (1 : Int32)))))) h0)
    refine own_go (T' := T) (g' := (mkF m 35 #[.val (.int p0)] [(.int (215 : Int32)), (.int p0)])) (fun t k => ?_) ?_
    · show Steps p.tables e below (T.setTop (mkF m 31 #[.val (.int p0)] [])) t
      refine XS.iloadN X.here hx rfl (hb hby d1_31) rfl ?_
      show Steps p.tables e below (T.setTop (mkF m 32 #[.val (.int p0)] [(.int p0)])) _
      refine XS.sipush X.here hx rfl (hb hby d1_32) ?_
      show Steps p.tables e below (T.setTop (mkF m 35 #[.val (.int p0)] [(.int (215 : Int32)), (.int p0)])) _
      exact k
    by_cases hc35_4 : p0 = (215 : Int32)
    · rw [if_pos hc35_4]
      refine own_go (T' := T) (g' := (mkF m 164 #[.val (.int p0)] [])) (fun t k => ?_) ?_
      · refine XS.icmpYes X.here hx rfl (pc0 := 35) (pc' := 164) rfl (hb hby d1_35) rfl (teq hc35_4).1 (by decide) (by decide) ?_
        exact k
      refine own_go (T' := T) (g' := (mkF m 169 #[.val (.int p0)] [(.int (1 : Int32))])) (fun t k => ?_) ?_
      · show Steps p.tables e below (T.setTop (mkF m 164 #[.val (.int p0)] [])) t
        refine XS.iconst X.here hx rfl (hb hby d1_164) ?_
        show Steps p.tables e below (T.setTop (mkF m 165 #[.val (.int p0)] [(.int (1 : Int32))])) _
        refine XS.goto X.here hx rfl (pc0 := 165) (pc' := 169) rfl (hb hby d1_165) (by decide) (by decide) ?_
        show Steps p.tables e below (T.setTop (mkF m 169 #[.val (.int p0)] [(.int (1 : Int32))])) _
        exact k
      exact own_retN X hx hlk hret (by simp) (hb hby d1_169) (by decide) (by decide) N ⟨rfl, eT⟩
    · rw [if_neg hc35_4]
      refine own_go (T' := T) (g' := (mkF m 38 #[.val (.int p0)] [])) (fun t k => ?_) ?_
      · refine XS.icmpNo X.here hx rfl (hb hby d1_35) rfl (feq hc35_4).1 ?_
        exact k
      refine own_go (T' := T) (g' := (mkF m 42 #[.val (.int p0)] [(.int (247 : Int32)), (.int p0)])) (fun t k => ?_) ?_
      · show Steps p.tables e below (T.setTop (mkF m 38 #[.val (.int p0)] [])) t
        refine XS.iloadN X.here hx rfl (hb hby d1_38) rfl ?_
        show Steps p.tables e below (T.setTop (mkF m 39 #[.val (.int p0)] [(.int p0)])) _
        refine XS.sipush X.here hx rfl (hb hby d1_39) ?_
        show Steps p.tables e below (T.setTop (mkF m 42 #[.val (.int p0)] [(.int (247 : Int32)), (.int p0)])) _
        exact k
      by_cases hc42_5 : p0 = (247 : Int32)
      · rw [if_pos hc42_5]
        refine own_go (T' := T) (g' := (mkF m 164 #[.val (.int p0)] [])) (fun t k => ?_) ?_
        · refine XS.icmpYes X.here hx rfl (pc0 := 42) (pc' := 164) rfl (hb hby d1_42) rfl (teq hc42_5).1 (by decide) (by decide) ?_
          exact k
        refine own_go (T' := T) (g' := (mkF m 169 #[.val (.int p0)] [(.int (1 : Int32))])) (fun t k => ?_) ?_
        · show Steps p.tables e below (T.setTop (mkF m 164 #[.val (.int p0)] [])) t
          refine XS.iconst X.here hx rfl (hb hby d1_164) ?_
          show Steps p.tables e below (T.setTop (mkF m 165 #[.val (.int p0)] [(.int (1 : Int32))])) _
          refine XS.goto X.here hx rfl (pc0 := 165) (pc' := 169) rfl (hb hby d1_165) (by decide) (by decide) ?_
          show Steps p.tables e below (T.setTop (mkF m 169 #[.val (.int p0)] [(.int (1 : Int32))])) _
          exact k
        exact own_retN X hx hlk hret (by simp) (hb hby d1_169) (by decide) (by decide) N ⟨rfl, eT⟩
      · rw [if_neg hc42_5]
        refine own_go (T' := T) (g' := (mkF m 45 #[.val (.int p0)] [])) (fun t k => ?_) ?_
        · refine XS.icmpNo X.here hx rfl (hb hby d1_42) rfl (feq hc42_5).1 ?_
          exact k
        refine own_go (T' := T) (g' := (mkF m 49 #[.val (.int p0)] [(.int (768 : Int32)), (.int p0)])) (fun t k => ?_) ?_
        · show Steps p.tables e below (T.setTop (mkF m 45 #[.val (.int p0)] [])) t
          refine XS.iloadN X.here hx rfl (hb hby d1_45) rfl ?_
          show Steps p.tables e below (T.setTop (mkF m 46 #[.val (.int p0)] [(.int p0)])) _
          refine XS.sipush X.here hx rfl (hb hby d1_46) ?_
          show Steps p.tables e below (T.setTop (mkF m 49 #[.val (.int p0)] [(.int (768 : Int32)), (.int p0)])) _
          exact k
        by_cases hc49_6 : p0 < (768 : Int32)
        · rw [if_pos hc49_6]
          refine own_go (T' := T) (g' := (mkF m 59 #[.val (.int p0)] [])) (fun t k => ?_) ?_
          · refine XS.icmpYes X.here hx rfl (pc0 := 49) (pc' := 59) rfl (hb hby d1_49) rfl (tlt hc49_6).1 (by decide) (by decide) ?_
            exact k
          exact w_f1_59 X eT N 
        · rw [if_neg hc49_6]
          refine own_go (T' := T) (g' := (mkF m 52 #[.val (.int p0)] [])) (fun t k => ?_) ?_
          · refine XS.icmpNo X.here hx rfl (hb hby d1_49) rfl (flt hc49_6).1 ?_
            exact k
          refine own_go (T' := T) (g' := (mkF m 56 #[.val (.int p0)] [(.int (879 : Int32)), (.int p0)])) (fun t k => ?_) ?_
          · show Steps p.tables e below (T.setTop (mkF m 52 #[.val (.int p0)] [])) t
            refine XS.iloadN X.here hx rfl (hb hby d1_52) rfl ?_
            show Steps p.tables e below (T.setTop (mkF m 53 #[.val (.int p0)] [(.int p0)])) _
            refine XS.sipush X.here hx rfl (hb hby d1_53) ?_
            show Steps p.tables e below (T.setTop (mkF m 56 #[.val (.int p0)] [(.int (879 : Int32)), (.int p0)])) _
            exact k
          by_cases hc56_23 : (879 : Int32) < p0
          · rw [if_pos hc56_23]
            refine own_go (T' := T) (g' := (mkF m 59 #[.val (.int p0)] [])) (fun t k => ?_) ?_
            · refine XS.icmpNo X.here hx rfl (hb hby d1_56) rfl (tlt hc56_23).2.2.2 ?_
              exact k
            exact w_f1_59 X eT N 
          · rw [if_neg hc56_23]
            refine own_go (T' := T) (g' := (mkF m 164 #[.val (.int p0)] [])) (fun t k => ?_) ?_
            · refine XS.icmpYes X.here hx rfl (pc0 := 56) (pc' := 164) rfl (hb hby d1_56) rfl (flt hc56_23).2.2.2 (by decide) (by decide) ?_
              exact k
            refine own_go (T' := T) (g' := (mkF m 169 #[.val (.int p0)] [(.int (1 : Int32))])) (fun t k => ?_) ?_
            · show Steps p.tables e below (T.setTop (mkF m 164 #[.val (.int p0)] [])) t
              refine XS.iconst X.here hx rfl (hb hby d1_164) ?_
              show Steps p.tables e below (T.setTop (mkF m 165 #[.val (.int p0)] [(.int (1 : Int32))])) _
              refine XS.goto X.here hx rfl (pc0 := 165) (pc' := 169) rfl (hb hby d1_165) (by decide) (by decide) ?_
              show Steps p.tables e below (T.setTop (mkF m 169 #[.val (.int p0)] [(.int (1 : Int32))])) _
              exact k
            exact own_retN X hx hlk hret (by simp) (hb hby d1_169) (by decide) (by decide) N ⟨rfl, eT⟩
  have w_f1_18 : ∀ {T : State} {locs : List Loc} (X : Stand p l e own_r1 s m #[(.int p0)] below meth c T locs 0 0) (eT : T.heap = h0) (N : Fr n0 locs), own_Ends p e below s n0 own_r1.cells own_r1.slots T (mkF m 18 #[.val (.int p0)] []) (own_P (.int (f1_18 p0)) h0) := by
    intro T locs X eT N 
    show own_Ends p e below s n0 _ _ _ _ (own_P (.int (if p0 < (123 : Int32) then (f1_31 p0) else (if (191 : Int32) < p0 then (f1_31 p0) else (1 : Int32)))) h0)
    refine own_go (T' := T) (g' := (mkF m 21 #[.val (.int p0)] [(.int (123 : Int32)), (.int p0)])) (fun t k => ?_) ?_
    · show Steps p.tables e below (T.setTop (mkF m 18 #[.val (.int p0)] [])) t
      refine XS.iloadN X.here hx rfl (hb hby d1_18) rfl ?_
      show Steps p.tables e below (T.setTop (mkF m 19 #[.val (.int p0)] [(.int p0)])) _
      refine XS.bipush X.here hx rfl (hb hby d1_19) ?_
      show Steps p.tables e below (T.setTop (mkF m 21 #[.val (.int p0)] [(.int (123 : Int32)), (.int p0)])) _
      exact k
    by_cases hc21_3 : p0 < (123 : Int32)
    · rw [if_pos hc21_3]
      refine own_go (T' := T) (g' := (mkF m 31 #[.val (.int p0)] [])) (fun t k => ?_) ?_
      · refine XS.icmpYes X.here hx rfl (pc0 := 21) (pc' := 31) rfl (hb hby d1_21) rfl (tlt hc21_3).1 (by decide) (by decide) ?_
        exact k
      exact w_f1_31 X eT N 
    · rw [if_neg hc21_3]
      refine own_go (T' := T) (g' := (mkF m 24 #[.val (.int p0)] [])) (fun t k => ?_) ?_
      · refine XS.icmpNo X.here hx rfl (hb hby d1_21) rfl (flt hc21_3).1 ?_
        exact k
      refine own_go (T' := T) (g' := (mkF m 28 #[.val (.int p0)] [(.int (191 : Int32)), (.int p0)])) (fun t k => ?_) ?_
      · show Steps p.tables e below (T.setTop (mkF m 24 #[.val (.int p0)] [])) t
        refine XS.iloadN X.here hx rfl (hb hby d1_24) rfl ?_
        show Steps p.tables e below (T.setTop (mkF m 25 #[.val (.int p0)] [(.int p0)])) _
        refine XS.sipush X.here hx rfl (hb hby d1_25) ?_
        show Steps p.tables e below (T.setTop (mkF m 28 #[.val (.int p0)] [(.int (191 : Int32)), (.int p0)])) _
        exact k
      by_cases hc28_24 : (191 : Int32) < p0
      · rw [if_pos hc28_24]
        refine own_go (T' := T) (g' := (mkF m 31 #[.val (.int p0)] [])) (fun t k => ?_) ?_
        · refine XS.icmpNo X.here hx rfl (hb hby d1_28) rfl (tlt hc28_24).2.2.2 ?_
          exact k
        exact w_f1_31 X eT N 
      · rw [if_neg hc28_24]
        refine own_go (T' := T) (g' := (mkF m 164 #[.val (.int p0)] [])) (fun t k => ?_) ?_
        · refine XS.icmpYes X.here hx rfl (pc0 := 28) (pc' := 164) rfl (hb hby d1_28) rfl (flt hc28_24).2.2.2 (by decide) (by decide) ?_
          exact k
        refine own_go (T' := T) (g' := (mkF m 169 #[.val (.int p0)] [(.int (1 : Int32))])) (fun t k => ?_) ?_
        · show Steps p.tables e below (T.setTop (mkF m 164 #[.val (.int p0)] [])) t
          refine XS.iconst X.here hx rfl (hb hby d1_164) ?_
          show Steps p.tables e below (T.setTop (mkF m 165 #[.val (.int p0)] [(.int (1 : Int32))])) _
          refine XS.goto X.here hx rfl (pc0 := 165) (pc' := 169) rfl (hb hby d1_165) (by decide) (by decide) ?_
          show Steps p.tables e below (T.setTop (mkF m 169 #[.val (.int p0)] [(.int (1 : Int32))])) _
          exact k
        exact own_retN X hx hlk hret (by simp) (hb hby d1_169) (by decide) (by decide) N ⟨rfl, eT⟩
  show own_Ends p e below s n0 _ _ _ _ (own_P (.int (if p0 < (65 : Int32) then (1 : Int32) else (if p0 < (91 : Int32) then (f1_18 p0) else (if (96 : Int32) < p0 then (f1_18 p0) else (1 : Int32))))) h0)
  refine own_go (T' := s₁) (g' := (mkF m 3 #[.val (.int p0)] [(.int (65 : Int32)), (.int p0)])) (fun t k => ?_) ?_
  · show Steps p.tables e below (s₁.setTop (mkF m 0 #[.val (.int p0)] [])) t
    refine XS.iloadN X0.here hx rfl (hb hby d1_0) rfl ?_
    show Steps p.tables e below (s₁.setTop (mkF m 1 #[.val (.int p0)] [(.int p0)])) _
    refine XS.bipush X0.here hx rfl (hb hby d1_1) ?_
    show Steps p.tables e below (s₁.setTop (mkF m 3 #[.val (.int p0)] [(.int (65 : Int32)), (.int p0)])) _
    exact k
  by_cases hc3_1 : p0 < (65 : Int32)
  · rw [if_pos hc3_1]
    refine own_go (T' := s₁) (g' := (mkF m 164 #[.val (.int p0)] [])) (fun t k => ?_) ?_
    · refine XS.icmpYes X0.here hx rfl (pc0 := 3) (pc' := 164) rfl (hb hby d1_3) rfl (tlt hc3_1).1 (by decide) (by decide) ?_
      exact k
    refine own_go (T' := s₁) (g' := (mkF m 169 #[.val (.int p0)] [(.int (1 : Int32))])) (fun t k => ?_) ?_
    · show Steps p.tables e below (s₁.setTop (mkF m 164 #[.val (.int p0)] [])) t
      refine XS.iconst X0.here hx rfl (hb hby d1_164) ?_
      show Steps p.tables e below (s₁.setTop (mkF m 165 #[.val (.int p0)] [(.int (1 : Int32))])) _
      refine XS.goto X0.here hx rfl (pc0 := 165) (pc' := 169) rfl (hb hby d1_165) (by decide) (by decide) ?_
      show Steps p.tables e below (s₁.setTop (mkF m 169 #[.val (.int p0)] [(.int (1 : Int32))])) _
      exact k
    exact own_retN X0 hx hlk hret (by simp) (hb hby d1_169) (by decide) (by decide) N0 ⟨rfl, e0⟩
  · rw [if_neg hc3_1]
    refine own_go (T' := s₁) (g' := (mkF m 6 #[.val (.int p0)] [])) (fun t k => ?_) ?_
    · refine XS.icmpNo X0.here hx rfl (hb hby d1_3) rfl (flt hc3_1).1 ?_
      exact k
    refine own_go (T' := s₁) (g' := (mkF m 9 #[.val (.int p0)] [(.int (91 : Int32)), (.int p0)])) (fun t k => ?_) ?_
    · show Steps p.tables e below (s₁.setTop (mkF m 6 #[.val (.int p0)] [])) t
      refine XS.iloadN X0.here hx rfl (hb hby d1_6) rfl ?_
      show Steps p.tables e below (s₁.setTop (mkF m 7 #[.val (.int p0)] [(.int p0)])) _
      refine XS.bipush X0.here hx rfl (hb hby d1_7) ?_
      show Steps p.tables e below (s₁.setTop (mkF m 9 #[.val (.int p0)] [(.int (91 : Int32)), (.int p0)])) _
      exact k
    by_cases hc9_2 : p0 < (91 : Int32)
    · rw [if_pos hc9_2]
      refine own_go (T' := s₁) (g' := (mkF m 18 #[.val (.int p0)] [])) (fun t k => ?_) ?_
      · refine XS.icmpYes X0.here hx rfl (pc0 := 9) (pc' := 18) rfl (hb hby d1_9) rfl (tlt hc9_2).1 (by decide) (by decide) ?_
        exact k
      exact w_f1_18 X0 e0 N0 
    · rw [if_neg hc9_2]
      refine own_go (T' := s₁) (g' := (mkF m 12 #[.val (.int p0)] [])) (fun t k => ?_) ?_
      · refine XS.icmpNo X0.here hx rfl (hb hby d1_9) rfl (flt hc9_2).1 ?_
        exact k
      refine own_go (T' := s₁) (g' := (mkF m 15 #[.val (.int p0)] [(.int (96 : Int32)), (.int p0)])) (fun t k => ?_) ?_
      · show Steps p.tables e below (s₁.setTop (mkF m 12 #[.val (.int p0)] [])) t
        refine XS.iloadN X0.here hx rfl (hb hby d1_12) rfl ?_
        show Steps p.tables e below (s₁.setTop (mkF m 13 #[.val (.int p0)] [(.int p0)])) _
        refine XS.bipush X0.here hx rfl (hb hby d1_13) ?_
        show Steps p.tables e below (s₁.setTop (mkF m 15 #[.val (.int p0)] [(.int (96 : Int32)), (.int p0)])) _
        exact k
      by_cases hc15_25 : (96 : Int32) < p0
      · rw [if_pos hc15_25]
        refine own_go (T' := s₁) (g' := (mkF m 18 #[.val (.int p0)] [])) (fun t k => ?_) ?_
        · refine XS.icmpNo X0.here hx rfl (hb hby d1_15) rfl (tlt hc15_25).2.2.2 ?_
          exact k
        exact w_f1_18 X0 e0 N0 
      · rw [if_neg hc15_25]
        refine own_go (T' := s₁) (g' := (mkF m 164 #[.val (.int p0)] [])) (fun t k => ?_) ?_
        · refine XS.icmpYes X0.here hx rfl (pc0 := 15) (pc' := 164) rfl (hb hby d1_15) rfl (flt hc15_25).2.2.2 (by decide) (by decide) ?_
          exact k
        refine own_go (T' := s₁) (g' := (mkF m 169 #[.val (.int p0)] [(.int (1 : Int32))])) (fun t k => ?_) ?_
        · show Steps p.tables e below (s₁.setTop (mkF m 164 #[.val (.int p0)] [])) t
          refine XS.iconst X0.here hx rfl (hb hby d1_164) ?_
          show Steps p.tables e below (s₁.setTop (mkF m 165 #[.val (.int p0)] [(.int (1 : Int32))])) _
          refine XS.goto X0.here hx rfl (pc0 := 165) (pc' := 169) rfl (hb hby d1_165) (by decide) (by decide) ?_
          show Steps p.tables e below (s₁.setTop (mkF m 169 #[.val (.int p0)] [(.int (1 : Int32))])) _
          exact k
        exact own_retN X0 hx hlk hret (by simp) (hb hby d1_169) (by decide) (by decide) N0 ⟨rfl, e0⟩
def f2_173 (p0 : Int32)  : Int32 := (if p0 < (65536 : Int32) then (0 : Int32) else (if (983039 : Int32) < p0 then (0 : Int32) else (1 : Int32)))
def f2_161 (p0 : Int32)  : Int32 := (if p0 < (65008 : Int32) then (f2_173 p0) else (if (65533 : Int32) < p0 then (f2_173 p0) else (1 : Int32)))
def f2_149 (p0 : Int32)  : Int32 := (if p0 < (63744 : Int32) then (f2_161 p0) else (if (64975 : Int32) < p0 then (f2_161 p0) else (1 : Int32)))
def f2_136 (p0 : Int32)  : Int32 := (if p0 < (12289 : Int32) then (f2_149 p0) else (if (55295 : Int32) < p0 then (f2_149 p0) else (1 : Int32)))
def f2_122 (p0 : Int32)  : Int32 := (if p0 < (11264 : Int32) then (f2_136 p0) else (if (12271 : Int32) < p0 then (f2_136 p0) else (1 : Int32)))
def f2_108 (p0 : Int32)  : Int32 := (if p0 < (8304 : Int32) then (f2_122 p0) else (if (8591 : Int32) < p0 then (f2_122 p0) else (1 : Int32)))
def f2_94 (p0 : Int32)  : Int32 := (if p0 < (8204 : Int32) then (f2_108 p0) else (if (8205 : Int32) < p0 then (f2_108 p0) else (1 : Int32)))
def f2_80 (p0 : Int32)  : Int32 := (if p0 < (895 : Int32) then (f2_94 p0) else (if (8191 : Int32) < p0 then (f2_94 p0) else (1 : Int32)))
def f2_66 (p0 : Int32)  : Int32 := (if p0 < (880 : Int32) then (f2_80 p0) else (if (893 : Int32) < p0 then (f2_80 p0) else (1 : Int32)))
def f2_52 (p0 : Int32)  : Int32 := (if p0 < (248 : Int32) then (f2_66 p0) else (if (767 : Int32) < p0 then (f2_66 p0) else (1 : Int32)))
def f2_38 (p0 : Int32)  : Int32 := (if p0 < (216 : Int32) then (f2_52 p0) else (if (246 : Int32) < p0 then (f2_52 p0) else (1 : Int32)))
def f2_24 (p0 : Int32)  : Int32 := (if p0 < (192 : Int32) then (f2_38 p0) else (if (214 : Int32) < p0 then (f2_38 p0) else (1 : Int32)))
def f2_12 (p0 : Int32)  : Int32 := (if p0 < (97 : Int32) then (f2_24 p0) else (if (122 : Int32) < p0 then (f2_24 p0) else (1 : Int32)))
def f2_0 (p0 : Int32) : Int32 := (if p0 < (65 : Int32) then (f2_12 p0) else (if (90 : Int32) < p0 then (f2_12 p0) else (1 : Int32)))
abbrev own_r2 : Room := { frames := 0, cells := 0, slots := 0, locals := 0 }
theorem d2_0 : decode prog_79_method_2_code 0 = .ok (.iload_n 0, 1) := by decide +kernel
theorem d2_1 : decode prog_79_method_2_code 1 = .ok (.bipush 65, 2) := by decide +kernel
theorem d2_3 : decode prog_79_method_2_code 3 = .ok (.if_icmp .lt 9, 3) := by decide +kernel
theorem d2_12 : decode prog_79_method_2_code 12 = .ok (.iload_n 0, 1) := by decide +kernel
theorem d2_13 : decode prog_79_method_2_code 13 = .ok (.bipush 97, 2) := by decide +kernel
theorem d2_15 : decode prog_79_method_2_code 15 = .ok (.if_icmp .lt 9, 3) := by decide +kernel
theorem d2_24 : decode prog_79_method_2_code 24 = .ok (.iload_n 0, 1) := by decide +kernel
theorem d2_25 : decode prog_79_method_2_code 25 = .ok (.sipush 192, 3) := by decide +kernel
theorem d2_28 : decode prog_79_method_2_code 28 = .ok (.if_icmp .lt 10, 3) := by decide +kernel
theorem d2_38 : decode prog_79_method_2_code 38 = .ok (.iload_n 0, 1) := by decide +kernel
theorem d2_39 : decode prog_79_method_2_code 39 = .ok (.sipush 216, 3) := by decide +kernel
theorem d2_42 : decode prog_79_method_2_code 42 = .ok (.if_icmp .lt 10, 3) := by decide +kernel
theorem d2_52 : decode prog_79_method_2_code 52 = .ok (.iload_n 0, 1) := by decide +kernel
theorem d2_53 : decode prog_79_method_2_code 53 = .ok (.sipush 248, 3) := by decide +kernel
theorem d2_56 : decode prog_79_method_2_code 56 = .ok (.if_icmp .lt 10, 3) := by decide +kernel
theorem d2_66 : decode prog_79_method_2_code 66 = .ok (.iload_n 0, 1) := by decide +kernel
theorem d2_67 : decode prog_79_method_2_code 67 = .ok (.sipush 880, 3) := by decide +kernel
theorem d2_70 : decode prog_79_method_2_code 70 = .ok (.if_icmp .lt 10, 3) := by decide +kernel
theorem d2_80 : decode prog_79_method_2_code 80 = .ok (.iload_n 0, 1) := by decide +kernel
theorem d2_81 : decode prog_79_method_2_code 81 = .ok (.sipush 895, 3) := by decide +kernel
theorem d2_84 : decode prog_79_method_2_code 84 = .ok (.if_icmp .lt 10, 3) := by decide +kernel
theorem d2_94 : decode prog_79_method_2_code 94 = .ok (.iload_n 0, 1) := by decide +kernel
theorem d2_95 : decode prog_79_method_2_code 95 = .ok (.sipush 8204, 3) := by decide +kernel
theorem d2_98 : decode prog_79_method_2_code 98 = .ok (.if_icmp .lt 10, 3) := by decide +kernel
theorem d2_108 : decode prog_79_method_2_code 108 = .ok (.iload_n 0, 1) := by decide +kernel
theorem d2_109 : decode prog_79_method_2_code 109 = .ok (.sipush 8304, 3) := by decide +kernel
theorem d2_112 : decode prog_79_method_2_code 112 = .ok (.if_icmp .lt 10, 3) := by decide +kernel
theorem d2_122 : decode prog_79_method_2_code 122 = .ok (.iload_n 0, 1) := by decide +kernel
theorem d2_123 : decode prog_79_method_2_code 123 = .ok (.sipush 11264, 3) := by decide +kernel
theorem d2_126 : decode prog_79_method_2_code 126 = .ok (.if_icmp .lt 10, 3) := by decide +kernel
theorem d2_136 : decode prog_79_method_2_code 136 = .ok (.iload_n 0, 1) := by decide +kernel
theorem d2_137 : decode prog_79_method_2_code 137 = .ok (.sipush 12289, 3) := by decide +kernel
theorem d2_140 : decode prog_79_method_2_code 140 = .ok (.if_icmp .lt 9, 3) := by decide +kernel
theorem d2_149 : decode prog_79_method_2_code 149 = .ok (.iload_n 0, 1) := by decide +kernel
theorem d2_150 : decode prog_79_method_2_code 150 = .ok (.ldc 8, 2) := by decide +kernel
theorem d2_152 : decode prog_79_method_2_code 152 = .ok (.if_icmp .lt 9, 3) := by decide +kernel
theorem d2_161 : decode prog_79_method_2_code 161 = .ok (.iload_n 0, 1) := by decide +kernel
theorem d2_162 : decode prog_79_method_2_code 162 = .ok (.ldc 10, 2) := by decide +kernel
theorem d2_164 : decode prog_79_method_2_code 164 = .ok (.if_icmp .lt 9, 3) := by decide +kernel
theorem d2_173 : decode prog_79_method_2_code 173 = .ok (.iload_n 0, 1) := by decide +kernel
theorem d2_174 : decode prog_79_method_2_code 174 = .ok (.ldc 12, 2) := by decide +kernel
theorem d2_176 : decode prog_79_method_2_code 176 = .ok (.if_icmp .lt 13, 3) := by decide +kernel
theorem d2_189 : decode prog_79_method_2_code 189 = .ok (.iconst 0, 1) := by decide +kernel
theorem d2_190 : decode prog_79_method_2_code 190 = .ok (.ireturn, 1) := by decide +kernel
theorem d2_179 : decode prog_79_method_2_code 179 = .ok (.iload_n 0, 1) := by decide +kernel
theorem d2_180 : decode prog_79_method_2_code 180 = .ok (.ldc 13, 2) := by decide +kernel
theorem d2_182 : decode prog_79_method_2_code 182 = .ok (.if_icmp .gt 7, 3) := by decide +kernel
theorem d2_185 : decode prog_79_method_2_code 185 = .ok (.iconst 1, 1) := by decide +kernel
theorem d2_186 : decode prog_79_method_2_code 186 = .ok (.goto 4, 3) := by decide +kernel
theorem d2_167 : decode prog_79_method_2_code 167 = .ok (.iload_n 0, 1) := by decide +kernel
theorem d2_168 : decode prog_79_method_2_code 168 = .ok (.ldc 11, 2) := by decide +kernel
theorem d2_170 : decode prog_79_method_2_code 170 = .ok (.if_icmp .le 15, 3) := by decide +kernel
theorem d2_155 : decode prog_79_method_2_code 155 = .ok (.iload_n 0, 1) := by decide +kernel
theorem d2_156 : decode prog_79_method_2_code 156 = .ok (.ldc 9, 2) := by decide +kernel
theorem d2_158 : decode prog_79_method_2_code 158 = .ok (.if_icmp .le 27, 3) := by decide +kernel
theorem d2_143 : decode prog_79_method_2_code 143 = .ok (.iload_n 0, 1) := by decide +kernel
theorem d2_144 : decode prog_79_method_2_code 144 = .ok (.ldc 7, 2) := by decide +kernel
theorem d2_146 : decode prog_79_method_2_code 146 = .ok (.if_icmp .le 39, 3) := by decide +kernel
theorem d2_129 : decode prog_79_method_2_code 129 = .ok (.iload_n 0, 1) := by decide +kernel
theorem d2_130 : decode prog_79_method_2_code 130 = .ok (.sipush 12271, 3) := by decide +kernel
theorem d2_133 : decode prog_79_method_2_code 133 = .ok (.if_icmp .le 52, 3) := by decide +kernel
theorem d2_115 : decode prog_79_method_2_code 115 = .ok (.iload_n 0, 1) := by decide +kernel
theorem d2_116 : decode prog_79_method_2_code 116 = .ok (.sipush 8591, 3) := by decide +kernel
theorem d2_119 : decode prog_79_method_2_code 119 = .ok (.if_icmp .le 66, 3) := by decide +kernel
theorem d2_101 : decode prog_79_method_2_code 101 = .ok (.iload_n 0, 1) := by decide +kernel
theorem d2_102 : decode prog_79_method_2_code 102 = .ok (.sipush 8205, 3) := by decide +kernel
theorem d2_105 : decode prog_79_method_2_code 105 = .ok (.if_icmp .le 80, 3) := by decide +kernel
theorem d2_87 : decode prog_79_method_2_code 87 = .ok (.iload_n 0, 1) := by decide +kernel
theorem d2_88 : decode prog_79_method_2_code 88 = .ok (.sipush 8191, 3) := by decide +kernel
theorem d2_91 : decode prog_79_method_2_code 91 = .ok (.if_icmp .le 94, 3) := by decide +kernel
theorem d2_73 : decode prog_79_method_2_code 73 = .ok (.iload_n 0, 1) := by decide +kernel
theorem d2_74 : decode prog_79_method_2_code 74 = .ok (.sipush 893, 3) := by decide +kernel
theorem d2_77 : decode prog_79_method_2_code 77 = .ok (.if_icmp .le 108, 3) := by decide +kernel
theorem d2_59 : decode prog_79_method_2_code 59 = .ok (.iload_n 0, 1) := by decide +kernel
theorem d2_60 : decode prog_79_method_2_code 60 = .ok (.sipush 767, 3) := by decide +kernel
theorem d2_63 : decode prog_79_method_2_code 63 = .ok (.if_icmp .le 122, 3) := by decide +kernel
theorem d2_45 : decode prog_79_method_2_code 45 = .ok (.iload_n 0, 1) := by decide +kernel
theorem d2_46 : decode prog_79_method_2_code 46 = .ok (.sipush 246, 3) := by decide +kernel
theorem d2_49 : decode prog_79_method_2_code 49 = .ok (.if_icmp .le 136, 3) := by decide +kernel
theorem d2_31 : decode prog_79_method_2_code 31 = .ok (.iload_n 0, 1) := by decide +kernel
theorem d2_32 : decode prog_79_method_2_code 32 = .ok (.sipush 214, 3) := by decide +kernel
theorem d2_35 : decode prog_79_method_2_code 35 = .ok (.if_icmp .le 150, 3) := by decide +kernel
theorem d2_18 : decode prog_79_method_2_code 18 = .ok (.iload_n 0, 1) := by decide +kernel
theorem d2_19 : decode prog_79_method_2_code 19 = .ok (.bipush 122, 2) := by decide +kernel
theorem d2_21 : decode prog_79_method_2_code 21 = .ok (.if_icmp .le 164, 3) := by decide +kernel
theorem d2_6 : decode prog_79_method_2_code 6 = .ok (.iload_n 0, 1) := by decide +kernel
theorem d2_7 : decode prog_79_method_2_code 7 = .ok (.bipush 90, 2) := by decide +kernel
theorem d2_9 : decode prog_79_method_2_code 9 = .ok (.if_icmp .le 176, 3) := by decide +kernel
theorem ef_2 (m : MethodId) (p0 : Int32) : entryFrame m #[(.int p0)] 1 = mkF m 0 #[.val (.int p0)] [] := by first | (simp [entryFrame, mkF, argsToLocals, Value.category]; done) | rfl
set_option maxRecDepth 65536 in
set_option maxHeartbeats 40000000 in
theorem rm2 (l : Launch) (Z : State) (a0 : Array Value) (hw : ∀ d ∈ tables_1, d.before a0 Z = true) (p0 : Int32) (h0 : Heap) (n0 : Nat) : own_Con [] l Z (⟨site_231.cls, "isPnCharsBase", "(I)Z"⟩ : MethodName) prog_79_method_2_code 1 (some .boolean) own_r2 n0 #[(.int p0)] h0 (own_P (.int (f2_0 p0)) h0) := by
  refine own_body (plainFor_of_name (by first | (simp [plainName, overriddenIn]; done) | decide +kernel)) (fun m => mkF m 0 #[.val (.int p0)] []) (fun m => ef_2 m p0) ?_
  intro p e s m below meth c s₁ hx hby hml hown hnm hZ hret hlk X0 e0 N0
  have w_f2_173 : ∀ {T : State} {locs : List Loc} (X : Stand p l e own_r2 s m #[(.int p0)] below meth c T locs 0 0) (eT : T.heap = h0) (N : Fr n0 locs), own_Ends p e below s n0 own_r2.cells own_r2.slots T (mkF m 173 #[.val (.int p0)] []) (own_P (.int (f2_173 p0)) h0) := by
    intro T locs X eT N 
    show own_Ends p e below s n0 _ _ _ _ (own_P (.int (if p0 < (65536 : Int32) then (0 : Int32) else (if (983039 : Int32) < p0 then (0 : Int32) else (1 : Int32)))) h0)
    refine own_go (T' := T) (g' := (mkF m 176 #[.val (.int p0)] [(.int (65536 : Int32)), (.int p0)])) (fun t k => ?_) ?_
    · show Steps p.tables e below (T.setTop (mkF m 173 #[.val (.int p0)] [])) t
      refine XS.iloadN X.here hx rfl (hb hby d2_173) rfl ?_
      show Steps p.tables e below (T.setTop (mkF m 174 #[.val (.int p0)] [(.int p0)])) _
      refine X.ldcInt hx hown (mvT hZ (hw _ (List.mem_of_getElem? (i := 18) rfl))) (g := (mkF m 174 #[.val (.int p0)] [(.int p0)])) rfl (hb hby d2_174) _ ?_
      show Steps p.tables e below (T.setTop (mkF m 176 #[.val (.int p0)] [(.int (65536 : Int32)), (.int p0)])) _
      exact k
    by_cases hc176_14 : p0 < (65536 : Int32)
    · rw [if_pos hc176_14]
      refine own_go (T' := T) (g' := (mkF m 189 #[.val (.int p0)] [])) (fun t k => ?_) ?_
      · refine XS.icmpYes X.here hx rfl (pc0 := 176) (pc' := 189) rfl (hb hby d2_176) rfl (tlt hc176_14).1 (by decide) (by decide) ?_
        exact k
      refine own_go (T' := T) (g' := (mkF m 190 #[.val (.int p0)] [(.int (0 : Int32))])) (fun t k => ?_) ?_
      · show Steps p.tables e below (T.setTop (mkF m 189 #[.val (.int p0)] [])) t
        refine XS.iconst X.here hx rfl (hb hby d2_189) ?_
        show Steps p.tables e below (T.setTop (mkF m 190 #[.val (.int p0)] [(.int (0 : Int32))])) _
        exact k
      exact own_retN X hx hlk hret (by simp) (hb hby d2_190) (by decide) (by decide) N ⟨rfl, eT⟩
    · rw [if_neg hc176_14]
      refine own_go (T' := T) (g' := (mkF m 179 #[.val (.int p0)] [])) (fun t k => ?_) ?_
      · refine XS.icmpNo X.here hx rfl (hb hby d2_176) rfl (flt hc176_14).1 ?_
        exact k
      refine own_go (T' := T) (g' := (mkF m 182 #[.val (.int p0)] [(.int (983039 : Int32)), (.int p0)])) (fun t k => ?_) ?_
      · show Steps p.tables e below (T.setTop (mkF m 179 #[.val (.int p0)] [])) t
        refine XS.iloadN X.here hx rfl (hb hby d2_179) rfl ?_
        show Steps p.tables e below (T.setTop (mkF m 180 #[.val (.int p0)] [(.int p0)])) _
        refine X.ldcInt hx hown (mvT hZ (hw _ (List.mem_of_getElem? (i := 29) rfl))) (g := (mkF m 180 #[.val (.int p0)] [(.int p0)])) rfl (hb hby d2_180) _ ?_
        show Steps p.tables e below (T.setTop (mkF m 182 #[.val (.int p0)] [(.int (983039 : Int32)), (.int p0)])) _
        exact k
      by_cases hc182_15 : (983039 : Int32) < p0
      · rw [if_pos hc182_15]
        refine own_go (T' := T) (g' := (mkF m 189 #[.val (.int p0)] [])) (fun t k => ?_) ?_
        · refine XS.icmpYes X.here hx rfl (pc0 := 182) (pc' := 189) rfl (hb hby d2_182) rfl (tlt hc182_15).2.2.1 (by decide) (by decide) ?_
          exact k
        refine own_go (T' := T) (g' := (mkF m 190 #[.val (.int p0)] [(.int (0 : Int32))])) (fun t k => ?_) ?_
        · show Steps p.tables e below (T.setTop (mkF m 189 #[.val (.int p0)] [])) t
          refine XS.iconst X.here hx rfl (hb hby d2_189) ?_
          show Steps p.tables e below (T.setTop (mkF m 190 #[.val (.int p0)] [(.int (0 : Int32))])) _
          exact k
        exact own_retN X hx hlk hret (by simp) (hb hby d2_190) (by decide) (by decide) N ⟨rfl, eT⟩
      · rw [if_neg hc182_15]
        refine own_go (T' := T) (g' := (mkF m 185 #[.val (.int p0)] [])) (fun t k => ?_) ?_
        · refine XS.icmpNo X.here hx rfl (hb hby d2_182) rfl (flt hc182_15).2.2.1 ?_
          exact k
        refine own_go (T' := T) (g' := (mkF m 190 #[.val (.int p0)] [(.int (1 : Int32))])) (fun t k => ?_) ?_
        · show Steps p.tables e below (T.setTop (mkF m 185 #[.val (.int p0)] [])) t
          refine XS.iconst X.here hx rfl (hb hby d2_185) ?_
          show Steps p.tables e below (T.setTop (mkF m 186 #[.val (.int p0)] [(.int (1 : Int32))])) _
          refine XS.goto X.here hx rfl (pc0 := 186) (pc' := 190) rfl (hb hby d2_186) (by decide) (by decide) ?_
          show Steps p.tables e below (T.setTop (mkF m 190 #[.val (.int p0)] [(.int (1 : Int32))])) _
          exact k
        exact own_retN X hx hlk hret (by simp) (hb hby d2_190) (by decide) (by decide) N ⟨rfl, eT⟩
  have w_f2_161 : ∀ {T : State} {locs : List Loc} (X : Stand p l e own_r2 s m #[(.int p0)] below meth c T locs 0 0) (eT : T.heap = h0) (N : Fr n0 locs), own_Ends p e below s n0 own_r2.cells own_r2.slots T (mkF m 161 #[.val (.int p0)] []) (own_P (.int (f2_161 p0)) h0) := by
    intro T locs X eT N 
    show own_Ends p e below s n0 _ _ _ _ (own_P (.int (if p0 < (65008 : Int32) then (f2_173 p0) else (if (65533 : Int32) < p0 then (f2_173 p0) else (1 : Int32)))) h0)
    refine own_go (T' := T) (g' := (mkF m 164 #[.val (.int p0)] [(.int (65008 : Int32)), (.int p0)])) (fun t k => ?_) ?_
    · show Steps p.tables e below (T.setTop (mkF m 161 #[.val (.int p0)] [])) t
      refine XS.iloadN X.here hx rfl (hb hby d2_161) rfl ?_
      show Steps p.tables e below (T.setTop (mkF m 162 #[.val (.int p0)] [(.int p0)])) _
      refine X.ldcInt hx hown (mvT hZ (hw _ (List.mem_of_getElem? (i := 17) rfl))) (g := (mkF m 162 #[.val (.int p0)] [(.int p0)])) rfl (hb hby d2_162) _ ?_
      show Steps p.tables e below (T.setTop (mkF m 164 #[.val (.int p0)] [(.int (65008 : Int32)), (.int p0)])) _
      exact k
    by_cases hc164_13 : p0 < (65008 : Int32)
    · rw [if_pos hc164_13]
      refine own_go (T' := T) (g' := (mkF m 173 #[.val (.int p0)] [])) (fun t k => ?_) ?_
      · refine XS.icmpYes X.here hx rfl (pc0 := 164) (pc' := 173) rfl (hb hby d2_164) rfl (tlt hc164_13).1 (by decide) (by decide) ?_
        exact k
      exact w_f2_173 X eT N 
    · rw [if_neg hc164_13]
      refine own_go (T' := T) (g' := (mkF m 167 #[.val (.int p0)] [])) (fun t k => ?_) ?_
      · refine XS.icmpNo X.here hx rfl (hb hby d2_164) rfl (flt hc164_13).1 ?_
        exact k
      refine own_go (T' := T) (g' := (mkF m 170 #[.val (.int p0)] [(.int (65533 : Int32)), (.int p0)])) (fun t k => ?_) ?_
      · show Steps p.tables e below (T.setTop (mkF m 167 #[.val (.int p0)] [])) t
        refine XS.iloadN X.here hx rfl (hb hby d2_167) rfl ?_
        show Steps p.tables e below (T.setTop (mkF m 168 #[.val (.int p0)] [(.int p0)])) _
        refine X.ldcInt hx hown (mvT hZ (hw _ (List.mem_of_getElem? (i := 28) rfl))) (g := (mkF m 168 #[.val (.int p0)] [(.int p0)])) rfl (hb hby d2_168) _ ?_
        show Steps p.tables e below (T.setTop (mkF m 170 #[.val (.int p0)] [(.int (65533 : Int32)), (.int p0)])) _
        exact k
      by_cases hc170_16 : (65533 : Int32) < p0
      · rw [if_pos hc170_16]
        refine own_go (T' := T) (g' := (mkF m 173 #[.val (.int p0)] [])) (fun t k => ?_) ?_
        · refine XS.icmpNo X.here hx rfl (hb hby d2_170) rfl (tlt hc170_16).2.2.2 ?_
          exact k
        exact w_f2_173 X eT N 
      · rw [if_neg hc170_16]
        refine own_go (T' := T) (g' := (mkF m 185 #[.val (.int p0)] [])) (fun t k => ?_) ?_
        · refine XS.icmpYes X.here hx rfl (pc0 := 170) (pc' := 185) rfl (hb hby d2_170) rfl (flt hc170_16).2.2.2 (by decide) (by decide) ?_
          exact k
        refine own_go (T' := T) (g' := (mkF m 190 #[.val (.int p0)] [(.int (1 : Int32))])) (fun t k => ?_) ?_
        · show Steps p.tables e below (T.setTop (mkF m 185 #[.val (.int p0)] [])) t
          refine XS.iconst X.here hx rfl (hb hby d2_185) ?_
          show Steps p.tables e below (T.setTop (mkF m 186 #[.val (.int p0)] [(.int (1 : Int32))])) _
          refine XS.goto X.here hx rfl (pc0 := 186) (pc' := 190) rfl (hb hby d2_186) (by decide) (by decide) ?_
          show Steps p.tables e below (T.setTop (mkF m 190 #[.val (.int p0)] [(.int (1 : Int32))])) _
          exact k
        exact own_retN X hx hlk hret (by simp) (hb hby d2_190) (by decide) (by decide) N ⟨rfl, eT⟩
  have w_f2_149 : ∀ {T : State} {locs : List Loc} (X : Stand p l e own_r2 s m #[(.int p0)] below meth c T locs 0 0) (eT : T.heap = h0) (N : Fr n0 locs), own_Ends p e below s n0 own_r2.cells own_r2.slots T (mkF m 149 #[.val (.int p0)] []) (own_P (.int (f2_149 p0)) h0) := by
    intro T locs X eT N 
    show own_Ends p e below s n0 _ _ _ _ (own_P (.int (if p0 < (63744 : Int32) then (f2_161 p0) else (if (64975 : Int32) < p0 then (f2_161 p0) else (1 : Int32)))) h0)
    refine own_go (T' := T) (g' := (mkF m 152 #[.val (.int p0)] [(.int (63744 : Int32)), (.int p0)])) (fun t k => ?_) ?_
    · show Steps p.tables e below (T.setTop (mkF m 149 #[.val (.int p0)] [])) t
      refine XS.iloadN X.here hx rfl (hb hby d2_149) rfl ?_
      show Steps p.tables e below (T.setTop (mkF m 150 #[.val (.int p0)] [(.int p0)])) _
      refine X.ldcInt hx hown (mvT hZ (hw _ (List.mem_of_getElem? (i := 16) rfl))) (g := (mkF m 150 #[.val (.int p0)] [(.int p0)])) rfl (hb hby d2_150) _ ?_
      show Steps p.tables e below (T.setTop (mkF m 152 #[.val (.int p0)] [(.int (63744 : Int32)), (.int p0)])) _
      exact k
    by_cases hc152_12 : p0 < (63744 : Int32)
    · rw [if_pos hc152_12]
      refine own_go (T' := T) (g' := (mkF m 161 #[.val (.int p0)] [])) (fun t k => ?_) ?_
      · refine XS.icmpYes X.here hx rfl (pc0 := 152) (pc' := 161) rfl (hb hby d2_152) rfl (tlt hc152_12).1 (by decide) (by decide) ?_
        exact k
      exact w_f2_161 X eT N 
    · rw [if_neg hc152_12]
      refine own_go (T' := T) (g' := (mkF m 155 #[.val (.int p0)] [])) (fun t k => ?_) ?_
      · refine XS.icmpNo X.here hx rfl (hb hby d2_152) rfl (flt hc152_12).1 ?_
        exact k
      refine own_go (T' := T) (g' := (mkF m 158 #[.val (.int p0)] [(.int (64975 : Int32)), (.int p0)])) (fun t k => ?_) ?_
      · show Steps p.tables e below (T.setTop (mkF m 155 #[.val (.int p0)] [])) t
        refine XS.iloadN X.here hx rfl (hb hby d2_155) rfl ?_
        show Steps p.tables e below (T.setTop (mkF m 156 #[.val (.int p0)] [(.int p0)])) _
        refine X.ldcInt hx hown (mvT hZ (hw _ (List.mem_of_getElem? (i := 27) rfl))) (g := (mkF m 156 #[.val (.int p0)] [(.int p0)])) rfl (hb hby d2_156) _ ?_
        show Steps p.tables e below (T.setTop (mkF m 158 #[.val (.int p0)] [(.int (64975 : Int32)), (.int p0)])) _
        exact k
      by_cases hc158_17 : (64975 : Int32) < p0
      · rw [if_pos hc158_17]
        refine own_go (T' := T) (g' := (mkF m 161 #[.val (.int p0)] [])) (fun t k => ?_) ?_
        · refine XS.icmpNo X.here hx rfl (hb hby d2_158) rfl (tlt hc158_17).2.2.2 ?_
          exact k
        exact w_f2_161 X eT N 
      · rw [if_neg hc158_17]
        refine own_go (T' := T) (g' := (mkF m 185 #[.val (.int p0)] [])) (fun t k => ?_) ?_
        · refine XS.icmpYes X.here hx rfl (pc0 := 158) (pc' := 185) rfl (hb hby d2_158) rfl (flt hc158_17).2.2.2 (by decide) (by decide) ?_
          exact k
        refine own_go (T' := T) (g' := (mkF m 190 #[.val (.int p0)] [(.int (1 : Int32))])) (fun t k => ?_) ?_
        · show Steps p.tables e below (T.setTop (mkF m 185 #[.val (.int p0)] [])) t
          refine XS.iconst X.here hx rfl (hb hby d2_185) ?_
          show Steps p.tables e below (T.setTop (mkF m 186 #[.val (.int p0)] [(.int (1 : Int32))])) _
          refine XS.goto X.here hx rfl (pc0 := 186) (pc' := 190) rfl (hb hby d2_186) (by decide) (by decide) ?_
          show Steps p.tables e below (T.setTop (mkF m 190 #[.val (.int p0)] [(.int (1 : Int32))])) _
          exact k
        exact own_retN X hx hlk hret (by simp) (hb hby d2_190) (by decide) (by decide) N ⟨rfl, eT⟩
  have w_f2_136 : ∀ {T : State} {locs : List Loc} (X : Stand p l e own_r2 s m #[(.int p0)] below meth c T locs 0 0) (eT : T.heap = h0) (N : Fr n0 locs), own_Ends p e below s n0 own_r2.cells own_r2.slots T (mkF m 136 #[.val (.int p0)] []) (own_P (.int (f2_136 p0)) h0) := by
    intro T locs X eT N 
    show own_Ends p e below s n0 _ _ _ _ (own_P (.int (if p0 < (12289 : Int32) then (f2_149 p0) else (if (55295 : Int32) < p0 then (f2_149 p0) else (1 : Int32)))) h0)
    refine own_go (T' := T) (g' := (mkF m 140 #[.val (.int p0)] [(.int (12289 : Int32)), (.int p0)])) (fun t k => ?_) ?_
    · show Steps p.tables e below (T.setTop (mkF m 136 #[.val (.int p0)] [])) t
      refine XS.iloadN X.here hx rfl (hb hby d2_136) rfl ?_
      show Steps p.tables e below (T.setTop (mkF m 137 #[.val (.int p0)] [(.int p0)])) _
      refine XS.sipush X.here hx rfl (hb hby d2_137) ?_
      show Steps p.tables e below (T.setTop (mkF m 140 #[.val (.int p0)] [(.int (12289 : Int32)), (.int p0)])) _
      exact k
    by_cases hc140_11 : p0 < (12289 : Int32)
    · rw [if_pos hc140_11]
      refine own_go (T' := T) (g' := (mkF m 149 #[.val (.int p0)] [])) (fun t k => ?_) ?_
      · refine XS.icmpYes X.here hx rfl (pc0 := 140) (pc' := 149) rfl (hb hby d2_140) rfl (tlt hc140_11).1 (by decide) (by decide) ?_
        exact k
      exact w_f2_149 X eT N 
    · rw [if_neg hc140_11]
      refine own_go (T' := T) (g' := (mkF m 143 #[.val (.int p0)] [])) (fun t k => ?_) ?_
      · refine XS.icmpNo X.here hx rfl (hb hby d2_140) rfl (flt hc140_11).1 ?_
        exact k
      refine own_go (T' := T) (g' := (mkF m 146 #[.val (.int p0)] [(.int (55295 : Int32)), (.int p0)])) (fun t k => ?_) ?_
      · show Steps p.tables e below (T.setTop (mkF m 143 #[.val (.int p0)] [])) t
        refine XS.iloadN X.here hx rfl (hb hby d2_143) rfl ?_
        show Steps p.tables e below (T.setTop (mkF m 144 #[.val (.int p0)] [(.int p0)])) _
        refine X.ldcInt hx hown (mvT hZ (hw _ (List.mem_of_getElem? (i := 26) rfl))) (g := (mkF m 144 #[.val (.int p0)] [(.int p0)])) rfl (hb hby d2_144) _ ?_
        show Steps p.tables e below (T.setTop (mkF m 146 #[.val (.int p0)] [(.int (55295 : Int32)), (.int p0)])) _
        exact k
      by_cases hc146_18 : (55295 : Int32) < p0
      · rw [if_pos hc146_18]
        refine own_go (T' := T) (g' := (mkF m 149 #[.val (.int p0)] [])) (fun t k => ?_) ?_
        · refine XS.icmpNo X.here hx rfl (hb hby d2_146) rfl (tlt hc146_18).2.2.2 ?_
          exact k
        exact w_f2_149 X eT N 
      · rw [if_neg hc146_18]
        refine own_go (T' := T) (g' := (mkF m 185 #[.val (.int p0)] [])) (fun t k => ?_) ?_
        · refine XS.icmpYes X.here hx rfl (pc0 := 146) (pc' := 185) rfl (hb hby d2_146) rfl (flt hc146_18).2.2.2 (by decide) (by decide) ?_
          exact k
        refine own_go (T' := T) (g' := (mkF m 190 #[.val (.int p0)] [(.int (1 : Int32))])) (fun t k => ?_) ?_
        · show Steps p.tables e below (T.setTop (mkF m 185 #[.val (.int p0)] [])) t
          refine XS.iconst X.here hx rfl (hb hby d2_185) ?_
          show Steps p.tables e below (T.setTop (mkF m 186 #[.val (.int p0)] [(.int (1 : Int32))])) _
          refine XS.goto X.here hx rfl (pc0 := 186) (pc' := 190) rfl (hb hby d2_186) (by decide) (by decide) ?_
          show Steps p.tables e below (T.setTop (mkF m 190 #[.val (.int p0)] [(.int (1 : Int32))])) _
          exact k
        exact own_retN X hx hlk hret (by simp) (hb hby d2_190) (by decide) (by decide) N ⟨rfl, eT⟩
  have w_f2_122 : ∀ {T : State} {locs : List Loc} (X : Stand p l e own_r2 s m #[(.int p0)] below meth c T locs 0 0) (eT : T.heap = h0) (N : Fr n0 locs), own_Ends p e below s n0 own_r2.cells own_r2.slots T (mkF m 122 #[.val (.int p0)] []) (own_P (.int (f2_122 p0)) h0) := by
    intro T locs X eT N 
    show own_Ends p e below s n0 _ _ _ _ (own_P (.int (if p0 < (11264 : Int32) then (f2_136 p0) else (if (12271 : Int32) < p0 then (f2_136 p0) else (1 : Int32)))) h0)
    refine own_go (T' := T) (g' := (mkF m 126 #[.val (.int p0)] [(.int (11264 : Int32)), (.int p0)])) (fun t k => ?_) ?_
    · show Steps p.tables e below (T.setTop (mkF m 122 #[.val (.int p0)] [])) t
      refine XS.iloadN X.here hx rfl (hb hby d2_122) rfl ?_
      show Steps p.tables e below (T.setTop (mkF m 123 #[.val (.int p0)] [(.int p0)])) _
      refine XS.sipush X.here hx rfl (hb hby d2_123) ?_
      show Steps p.tables e below (T.setTop (mkF m 126 #[.val (.int p0)] [(.int (11264 : Int32)), (.int p0)])) _
      exact k
    by_cases hc126_10 : p0 < (11264 : Int32)
    · rw [if_pos hc126_10]
      refine own_go (T' := T) (g' := (mkF m 136 #[.val (.int p0)] [])) (fun t k => ?_) ?_
      · refine XS.icmpYes X.here hx rfl (pc0 := 126) (pc' := 136) rfl (hb hby d2_126) rfl (tlt hc126_10).1 (by decide) (by decide) ?_
        exact k
      exact w_f2_136 X eT N 
    · rw [if_neg hc126_10]
      refine own_go (T' := T) (g' := (mkF m 129 #[.val (.int p0)] [])) (fun t k => ?_) ?_
      · refine XS.icmpNo X.here hx rfl (hb hby d2_126) rfl (flt hc126_10).1 ?_
        exact k
      refine own_go (T' := T) (g' := (mkF m 133 #[.val (.int p0)] [(.int (12271 : Int32)), (.int p0)])) (fun t k => ?_) ?_
      · show Steps p.tables e below (T.setTop (mkF m 129 #[.val (.int p0)] [])) t
        refine XS.iloadN X.here hx rfl (hb hby d2_129) rfl ?_
        show Steps p.tables e below (T.setTop (mkF m 130 #[.val (.int p0)] [(.int p0)])) _
        refine XS.sipush X.here hx rfl (hb hby d2_130) ?_
        show Steps p.tables e below (T.setTop (mkF m 133 #[.val (.int p0)] [(.int (12271 : Int32)), (.int p0)])) _
        exact k
      by_cases hc133_19 : (12271 : Int32) < p0
      · rw [if_pos hc133_19]
        refine own_go (T' := T) (g' := (mkF m 136 #[.val (.int p0)] [])) (fun t k => ?_) ?_
        · refine XS.icmpNo X.here hx rfl (hb hby d2_133) rfl (tlt hc133_19).2.2.2 ?_
          exact k
        exact w_f2_136 X eT N 
      · rw [if_neg hc133_19]
        refine own_go (T' := T) (g' := (mkF m 185 #[.val (.int p0)] [])) (fun t k => ?_) ?_
        · refine XS.icmpYes X.here hx rfl (pc0 := 133) (pc' := 185) rfl (hb hby d2_133) rfl (flt hc133_19).2.2.2 (by decide) (by decide) ?_
          exact k
        refine own_go (T' := T) (g' := (mkF m 190 #[.val (.int p0)] [(.int (1 : Int32))])) (fun t k => ?_) ?_
        · show Steps p.tables e below (T.setTop (mkF m 185 #[.val (.int p0)] [])) t
          refine XS.iconst X.here hx rfl (hb hby d2_185) ?_
          show Steps p.tables e below (T.setTop (mkF m 186 #[.val (.int p0)] [(.int (1 : Int32))])) _
          refine XS.goto X.here hx rfl (pc0 := 186) (pc' := 190) rfl (hb hby d2_186) (by decide) (by decide) ?_
          show Steps p.tables e below (T.setTop (mkF m 190 #[.val (.int p0)] [(.int (1 : Int32))])) _
          exact k
        exact own_retN X hx hlk hret (by simp) (hb hby d2_190) (by decide) (by decide) N ⟨rfl, eT⟩
  have w_f2_108 : ∀ {T : State} {locs : List Loc} (X : Stand p l e own_r2 s m #[(.int p0)] below meth c T locs 0 0) (eT : T.heap = h0) (N : Fr n0 locs), own_Ends p e below s n0 own_r2.cells own_r2.slots T (mkF m 108 #[.val (.int p0)] []) (own_P (.int (f2_108 p0)) h0) := by
    intro T locs X eT N 
    show own_Ends p e below s n0 _ _ _ _ (own_P (.int (if p0 < (8304 : Int32) then (f2_122 p0) else (if (8591 : Int32) < p0 then (f2_122 p0) else (1 : Int32)))) h0)
    refine own_go (T' := T) (g' := (mkF m 112 #[.val (.int p0)] [(.int (8304 : Int32)), (.int p0)])) (fun t k => ?_) ?_
    · show Steps p.tables e below (T.setTop (mkF m 108 #[.val (.int p0)] [])) t
      refine XS.iloadN X.here hx rfl (hb hby d2_108) rfl ?_
      show Steps p.tables e below (T.setTop (mkF m 109 #[.val (.int p0)] [(.int p0)])) _
      refine XS.sipush X.here hx rfl (hb hby d2_109) ?_
      show Steps p.tables e below (T.setTop (mkF m 112 #[.val (.int p0)] [(.int (8304 : Int32)), (.int p0)])) _
      exact k
    by_cases hc112_9 : p0 < (8304 : Int32)
    · rw [if_pos hc112_9]
      refine own_go (T' := T) (g' := (mkF m 122 #[.val (.int p0)] [])) (fun t k => ?_) ?_
      · refine XS.icmpYes X.here hx rfl (pc0 := 112) (pc' := 122) rfl (hb hby d2_112) rfl (tlt hc112_9).1 (by decide) (by decide) ?_
        exact k
      exact w_f2_122 X eT N 
    · rw [if_neg hc112_9]
      refine own_go (T' := T) (g' := (mkF m 115 #[.val (.int p0)] [])) (fun t k => ?_) ?_
      · refine XS.icmpNo X.here hx rfl (hb hby d2_112) rfl (flt hc112_9).1 ?_
        exact k
      refine own_go (T' := T) (g' := (mkF m 119 #[.val (.int p0)] [(.int (8591 : Int32)), (.int p0)])) (fun t k => ?_) ?_
      · show Steps p.tables e below (T.setTop (mkF m 115 #[.val (.int p0)] [])) t
        refine XS.iloadN X.here hx rfl (hb hby d2_115) rfl ?_
        show Steps p.tables e below (T.setTop (mkF m 116 #[.val (.int p0)] [(.int p0)])) _
        refine XS.sipush X.here hx rfl (hb hby d2_116) ?_
        show Steps p.tables e below (T.setTop (mkF m 119 #[.val (.int p0)] [(.int (8591 : Int32)), (.int p0)])) _
        exact k
      by_cases hc119_20 : (8591 : Int32) < p0
      · rw [if_pos hc119_20]
        refine own_go (T' := T) (g' := (mkF m 122 #[.val (.int p0)] [])) (fun t k => ?_) ?_
        · refine XS.icmpNo X.here hx rfl (hb hby d2_119) rfl (tlt hc119_20).2.2.2 ?_
          exact k
        exact w_f2_122 X eT N 
      · rw [if_neg hc119_20]
        refine own_go (T' := T) (g' := (mkF m 185 #[.val (.int p0)] [])) (fun t k => ?_) ?_
        · refine XS.icmpYes X.here hx rfl (pc0 := 119) (pc' := 185) rfl (hb hby d2_119) rfl (flt hc119_20).2.2.2 (by decide) (by decide) ?_
          exact k
        refine own_go (T' := T) (g' := (mkF m 190 #[.val (.int p0)] [(.int (1 : Int32))])) (fun t k => ?_) ?_
        · show Steps p.tables e below (T.setTop (mkF m 185 #[.val (.int p0)] [])) t
          refine XS.iconst X.here hx rfl (hb hby d2_185) ?_
          show Steps p.tables e below (T.setTop (mkF m 186 #[.val (.int p0)] [(.int (1 : Int32))])) _
          refine XS.goto X.here hx rfl (pc0 := 186) (pc' := 190) rfl (hb hby d2_186) (by decide) (by decide) ?_
          show Steps p.tables e below (T.setTop (mkF m 190 #[.val (.int p0)] [(.int (1 : Int32))])) _
          exact k
        exact own_retN X hx hlk hret (by simp) (hb hby d2_190) (by decide) (by decide) N ⟨rfl, eT⟩
  have w_f2_94 : ∀ {T : State} {locs : List Loc} (X : Stand p l e own_r2 s m #[(.int p0)] below meth c T locs 0 0) (eT : T.heap = h0) (N : Fr n0 locs), own_Ends p e below s n0 own_r2.cells own_r2.slots T (mkF m 94 #[.val (.int p0)] []) (own_P (.int (f2_94 p0)) h0) := by
    intro T locs X eT N 
    show own_Ends p e below s n0 _ _ _ _ (own_P (.int (if p0 < (8204 : Int32) then (f2_108 p0) else (if (8205 : Int32) < p0 then (f2_108 p0) else (1 : Int32)))) h0)
    refine own_go (T' := T) (g' := (mkF m 98 #[.val (.int p0)] [(.int (8204 : Int32)), (.int p0)])) (fun t k => ?_) ?_
    · show Steps p.tables e below (T.setTop (mkF m 94 #[.val (.int p0)] [])) t
      refine XS.iloadN X.here hx rfl (hb hby d2_94) rfl ?_
      show Steps p.tables e below (T.setTop (mkF m 95 #[.val (.int p0)] [(.int p0)])) _
      refine XS.sipush X.here hx rfl (hb hby d2_95) ?_
      show Steps p.tables e below (T.setTop (mkF m 98 #[.val (.int p0)] [(.int (8204 : Int32)), (.int p0)])) _
      exact k
    by_cases hc98_8 : p0 < (8204 : Int32)
    · rw [if_pos hc98_8]
      refine own_go (T' := T) (g' := (mkF m 108 #[.val (.int p0)] [])) (fun t k => ?_) ?_
      · refine XS.icmpYes X.here hx rfl (pc0 := 98) (pc' := 108) rfl (hb hby d2_98) rfl (tlt hc98_8).1 (by decide) (by decide) ?_
        exact k
      exact w_f2_108 X eT N 
    · rw [if_neg hc98_8]
      refine own_go (T' := T) (g' := (mkF m 101 #[.val (.int p0)] [])) (fun t k => ?_) ?_
      · refine XS.icmpNo X.here hx rfl (hb hby d2_98) rfl (flt hc98_8).1 ?_
        exact k
      refine own_go (T' := T) (g' := (mkF m 105 #[.val (.int p0)] [(.int (8205 : Int32)), (.int p0)])) (fun t k => ?_) ?_
      · show Steps p.tables e below (T.setTop (mkF m 101 #[.val (.int p0)] [])) t
        refine XS.iloadN X.here hx rfl (hb hby d2_101) rfl ?_
        show Steps p.tables e below (T.setTop (mkF m 102 #[.val (.int p0)] [(.int p0)])) _
        refine XS.sipush X.here hx rfl (hb hby d2_102) ?_
        show Steps p.tables e below (T.setTop (mkF m 105 #[.val (.int p0)] [(.int (8205 : Int32)), (.int p0)])) _
        exact k
      by_cases hc105_21 : (8205 : Int32) < p0
      · rw [if_pos hc105_21]
        refine own_go (T' := T) (g' := (mkF m 108 #[.val (.int p0)] [])) (fun t k => ?_) ?_
        · refine XS.icmpNo X.here hx rfl (hb hby d2_105) rfl (tlt hc105_21).2.2.2 ?_
          exact k
        exact w_f2_108 X eT N 
      · rw [if_neg hc105_21]
        refine own_go (T' := T) (g' := (mkF m 185 #[.val (.int p0)] [])) (fun t k => ?_) ?_
        · refine XS.icmpYes X.here hx rfl (pc0 := 105) (pc' := 185) rfl (hb hby d2_105) rfl (flt hc105_21).2.2.2 (by decide) (by decide) ?_
          exact k
        refine own_go (T' := T) (g' := (mkF m 190 #[.val (.int p0)] [(.int (1 : Int32))])) (fun t k => ?_) ?_
        · show Steps p.tables e below (T.setTop (mkF m 185 #[.val (.int p0)] [])) t
          refine XS.iconst X.here hx rfl (hb hby d2_185) ?_
          show Steps p.tables e below (T.setTop (mkF m 186 #[.val (.int p0)] [(.int (1 : Int32))])) _
          refine XS.goto X.here hx rfl (pc0 := 186) (pc' := 190) rfl (hb hby d2_186) (by decide) (by decide) ?_
          show Steps p.tables e below (T.setTop (mkF m 190 #[.val (.int p0)] [(.int (1 : Int32))])) _
          exact k
        exact own_retN X hx hlk hret (by simp) (hb hby d2_190) (by decide) (by decide) N ⟨rfl, eT⟩
  have w_f2_80 : ∀ {T : State} {locs : List Loc} (X : Stand p l e own_r2 s m #[(.int p0)] below meth c T locs 0 0) (eT : T.heap = h0) (N : Fr n0 locs), own_Ends p e below s n0 own_r2.cells own_r2.slots T (mkF m 80 #[.val (.int p0)] []) (own_P (.int (f2_80 p0)) h0) := by
    intro T locs X eT N 
    show own_Ends p e below s n0 _ _ _ _ (own_P (.int (if p0 < (895 : Int32) then (f2_94 p0) else (if (8191 : Int32) < p0 then (f2_94 p0) else (1 : Int32)))) h0)
    refine own_go (T' := T) (g' := (mkF m 84 #[.val (.int p0)] [(.int (895 : Int32)), (.int p0)])) (fun t k => ?_) ?_
    · show Steps p.tables e below (T.setTop (mkF m 80 #[.val (.int p0)] [])) t
      refine XS.iloadN X.here hx rfl (hb hby d2_80) rfl ?_
      show Steps p.tables e below (T.setTop (mkF m 81 #[.val (.int p0)] [(.int p0)])) _
      refine XS.sipush X.here hx rfl (hb hby d2_81) ?_
      show Steps p.tables e below (T.setTop (mkF m 84 #[.val (.int p0)] [(.int (895 : Int32)), (.int p0)])) _
      exact k
    by_cases hc84_7 : p0 < (895 : Int32)
    · rw [if_pos hc84_7]
      refine own_go (T' := T) (g' := (mkF m 94 #[.val (.int p0)] [])) (fun t k => ?_) ?_
      · refine XS.icmpYes X.here hx rfl (pc0 := 84) (pc' := 94) rfl (hb hby d2_84) rfl (tlt hc84_7).1 (by decide) (by decide) ?_
        exact k
      exact w_f2_94 X eT N 
    · rw [if_neg hc84_7]
      refine own_go (T' := T) (g' := (mkF m 87 #[.val (.int p0)] [])) (fun t k => ?_) ?_
      · refine XS.icmpNo X.here hx rfl (hb hby d2_84) rfl (flt hc84_7).1 ?_
        exact k
      refine own_go (T' := T) (g' := (mkF m 91 #[.val (.int p0)] [(.int (8191 : Int32)), (.int p0)])) (fun t k => ?_) ?_
      · show Steps p.tables e below (T.setTop (mkF m 87 #[.val (.int p0)] [])) t
        refine XS.iloadN X.here hx rfl (hb hby d2_87) rfl ?_
        show Steps p.tables e below (T.setTop (mkF m 88 #[.val (.int p0)] [(.int p0)])) _
        refine XS.sipush X.here hx rfl (hb hby d2_88) ?_
        show Steps p.tables e below (T.setTop (mkF m 91 #[.val (.int p0)] [(.int (8191 : Int32)), (.int p0)])) _
        exact k
      by_cases hc91_22 : (8191 : Int32) < p0
      · rw [if_pos hc91_22]
        refine own_go (T' := T) (g' := (mkF m 94 #[.val (.int p0)] [])) (fun t k => ?_) ?_
        · refine XS.icmpNo X.here hx rfl (hb hby d2_91) rfl (tlt hc91_22).2.2.2 ?_
          exact k
        exact w_f2_94 X eT N 
      · rw [if_neg hc91_22]
        refine own_go (T' := T) (g' := (mkF m 185 #[.val (.int p0)] [])) (fun t k => ?_) ?_
        · refine XS.icmpYes X.here hx rfl (pc0 := 91) (pc' := 185) rfl (hb hby d2_91) rfl (flt hc91_22).2.2.2 (by decide) (by decide) ?_
          exact k
        refine own_go (T' := T) (g' := (mkF m 190 #[.val (.int p0)] [(.int (1 : Int32))])) (fun t k => ?_) ?_
        · show Steps p.tables e below (T.setTop (mkF m 185 #[.val (.int p0)] [])) t
          refine XS.iconst X.here hx rfl (hb hby d2_185) ?_
          show Steps p.tables e below (T.setTop (mkF m 186 #[.val (.int p0)] [(.int (1 : Int32))])) _
          refine XS.goto X.here hx rfl (pc0 := 186) (pc' := 190) rfl (hb hby d2_186) (by decide) (by decide) ?_
          show Steps p.tables e below (T.setTop (mkF m 190 #[.val (.int p0)] [(.int (1 : Int32))])) _
          exact k
        exact own_retN X hx hlk hret (by simp) (hb hby d2_190) (by decide) (by decide) N ⟨rfl, eT⟩
  have w_f2_66 : ∀ {T : State} {locs : List Loc} (X : Stand p l e own_r2 s m #[(.int p0)] below meth c T locs 0 0) (eT : T.heap = h0) (N : Fr n0 locs), own_Ends p e below s n0 own_r2.cells own_r2.slots T (mkF m 66 #[.val (.int p0)] []) (own_P (.int (f2_66 p0)) h0) := by
    intro T locs X eT N 
    show own_Ends p e below s n0 _ _ _ _ (own_P (.int (if p0 < (880 : Int32) then (f2_80 p0) else (if (893 : Int32) < p0 then (f2_80 p0) else (1 : Int32)))) h0)
    refine own_go (T' := T) (g' := (mkF m 70 #[.val (.int p0)] [(.int (880 : Int32)), (.int p0)])) (fun t k => ?_) ?_
    · show Steps p.tables e below (T.setTop (mkF m 66 #[.val (.int p0)] [])) t
      refine XS.iloadN X.here hx rfl (hb hby d2_66) rfl ?_
      show Steps p.tables e below (T.setTop (mkF m 67 #[.val (.int p0)] [(.int p0)])) _
      refine XS.sipush X.here hx rfl (hb hby d2_67) ?_
      show Steps p.tables e below (T.setTop (mkF m 70 #[.val (.int p0)] [(.int (880 : Int32)), (.int p0)])) _
      exact k
    by_cases hc70_6 : p0 < (880 : Int32)
    · rw [if_pos hc70_6]
      refine own_go (T' := T) (g' := (mkF m 80 #[.val (.int p0)] [])) (fun t k => ?_) ?_
      · refine XS.icmpYes X.here hx rfl (pc0 := 70) (pc' := 80) rfl (hb hby d2_70) rfl (tlt hc70_6).1 (by decide) (by decide) ?_
        exact k
      exact w_f2_80 X eT N 
    · rw [if_neg hc70_6]
      refine own_go (T' := T) (g' := (mkF m 73 #[.val (.int p0)] [])) (fun t k => ?_) ?_
      · refine XS.icmpNo X.here hx rfl (hb hby d2_70) rfl (flt hc70_6).1 ?_
        exact k
      refine own_go (T' := T) (g' := (mkF m 77 #[.val (.int p0)] [(.int (893 : Int32)), (.int p0)])) (fun t k => ?_) ?_
      · show Steps p.tables e below (T.setTop (mkF m 73 #[.val (.int p0)] [])) t
        refine XS.iloadN X.here hx rfl (hb hby d2_73) rfl ?_
        show Steps p.tables e below (T.setTop (mkF m 74 #[.val (.int p0)] [(.int p0)])) _
        refine XS.sipush X.here hx rfl (hb hby d2_74) ?_
        show Steps p.tables e below (T.setTop (mkF m 77 #[.val (.int p0)] [(.int (893 : Int32)), (.int p0)])) _
        exact k
      by_cases hc77_23 : (893 : Int32) < p0
      · rw [if_pos hc77_23]
        refine own_go (T' := T) (g' := (mkF m 80 #[.val (.int p0)] [])) (fun t k => ?_) ?_
        · refine XS.icmpNo X.here hx rfl (hb hby d2_77) rfl (tlt hc77_23).2.2.2 ?_
          exact k
        exact w_f2_80 X eT N 
      · rw [if_neg hc77_23]
        refine own_go (T' := T) (g' := (mkF m 185 #[.val (.int p0)] [])) (fun t k => ?_) ?_
        · refine XS.icmpYes X.here hx rfl (pc0 := 77) (pc' := 185) rfl (hb hby d2_77) rfl (flt hc77_23).2.2.2 (by decide) (by decide) ?_
          exact k
        refine own_go (T' := T) (g' := (mkF m 190 #[.val (.int p0)] [(.int (1 : Int32))])) (fun t k => ?_) ?_
        · show Steps p.tables e below (T.setTop (mkF m 185 #[.val (.int p0)] [])) t
          refine XS.iconst X.here hx rfl (hb hby d2_185) ?_
          show Steps p.tables e below (T.setTop (mkF m 186 #[.val (.int p0)] [(.int (1 : Int32))])) _
          refine XS.goto X.here hx rfl (pc0 := 186) (pc' := 190) rfl (hb hby d2_186) (by decide) (by decide) ?_
          show Steps p.tables e below (T.setTop (mkF m 190 #[.val (.int p0)] [(.int (1 : Int32))])) _
          exact k
        exact own_retN X hx hlk hret (by simp) (hb hby d2_190) (by decide) (by decide) N ⟨rfl, eT⟩
  have w_f2_52 : ∀ {T : State} {locs : List Loc} (X : Stand p l e own_r2 s m #[(.int p0)] below meth c T locs 0 0) (eT : T.heap = h0) (N : Fr n0 locs), own_Ends p e below s n0 own_r2.cells own_r2.slots T (mkF m 52 #[.val (.int p0)] []) (own_P (.int (f2_52 p0)) h0) := by
    intro T locs X eT N 
    show own_Ends p e below s n0 _ _ _ _ (own_P (.int (if p0 < (248 : Int32) then (f2_66 p0) else (if (767 : Int32) < p0 then (f2_66 p0) else (1 : Int32)))) h0)
    refine own_go (T' := T) (g' := (mkF m 56 #[.val (.int p0)] [(.int (248 : Int32)), (.int p0)])) (fun t k => ?_) ?_
    · show Steps p.tables e below (T.setTop (mkF m 52 #[.val (.int p0)] [])) t
      refine XS.iloadN X.here hx rfl (hb hby d2_52) rfl ?_
      show Steps p.tables e below (T.setTop (mkF m 53 #[.val (.int p0)] [(.int p0)])) _
      refine XS.sipush X.here hx rfl (hb hby d2_53) ?_
      show Steps p.tables e below (T.setTop (mkF m 56 #[.val (.int p0)] [(.int (248 : Int32)), (.int p0)])) _
      exact k
    by_cases hc56_5 : p0 < (248 : Int32)
    · rw [if_pos hc56_5]
      refine own_go (T' := T) (g' := (mkF m 66 #[.val (.int p0)] [])) (fun t k => ?_) ?_
      · refine XS.icmpYes X.here hx rfl (pc0 := 56) (pc' := 66) rfl (hb hby d2_56) rfl (tlt hc56_5).1 (by decide) (by decide) ?_
        exact k
      exact w_f2_66 X eT N 
    · rw [if_neg hc56_5]
      refine own_go (T' := T) (g' := (mkF m 59 #[.val (.int p0)] [])) (fun t k => ?_) ?_
      · refine XS.icmpNo X.here hx rfl (hb hby d2_56) rfl (flt hc56_5).1 ?_
        exact k
      refine own_go (T' := T) (g' := (mkF m 63 #[.val (.int p0)] [(.int (767 : Int32)), (.int p0)])) (fun t k => ?_) ?_
      · show Steps p.tables e below (T.setTop (mkF m 59 #[.val (.int p0)] [])) t
        refine XS.iloadN X.here hx rfl (hb hby d2_59) rfl ?_
        show Steps p.tables e below (T.setTop (mkF m 60 #[.val (.int p0)] [(.int p0)])) _
        refine XS.sipush X.here hx rfl (hb hby d2_60) ?_
        show Steps p.tables e below (T.setTop (mkF m 63 #[.val (.int p0)] [(.int (767 : Int32)), (.int p0)])) _
        exact k
      by_cases hc63_24 : (767 : Int32) < p0
      · rw [if_pos hc63_24]
        refine own_go (T' := T) (g' := (mkF m 66 #[.val (.int p0)] [])) (fun t k => ?_) ?_
        · refine XS.icmpNo X.here hx rfl (hb hby d2_63) rfl (tlt hc63_24).2.2.2 ?_
          exact k
        exact w_f2_66 X eT N 
      · rw [if_neg hc63_24]
        refine own_go (T' := T) (g' := (mkF m 185 #[.val (.int p0)] [])) (fun t k => ?_) ?_
        · refine XS.icmpYes X.here hx rfl (pc0 := 63) (pc' := 185) rfl (hb hby d2_63) rfl (flt hc63_24).2.2.2 (by decide) (by decide) ?_
          exact k
        refine own_go (T' := T) (g' := (mkF m 190 #[.val (.int p0)] [(.int (1 : Int32))])) (fun t k => ?_) ?_
        · show Steps p.tables e below (T.setTop (mkF m 185 #[.val (.int p0)] [])) t
          refine XS.iconst X.here hx rfl (hb hby d2_185) ?_
          show Steps p.tables e below (T.setTop (mkF m 186 #[.val (.int p0)] [(.int (1 : Int32))])) _
          refine XS.goto X.here hx rfl (pc0 := 186) (pc' := 190) rfl (hb hby d2_186) (by decide) (by decide) ?_
          show Steps p.tables e below (T.setTop (mkF m 190 #[.val (.int p0)] [(.int (1 : Int32))])) _
          exact k
        exact own_retN X hx hlk hret (by simp) (hb hby d2_190) (by decide) (by decide) N ⟨rfl, eT⟩
  have w_f2_38 : ∀ {T : State} {locs : List Loc} (X : Stand p l e own_r2 s m #[(.int p0)] below meth c T locs 0 0) (eT : T.heap = h0) (N : Fr n0 locs), own_Ends p e below s n0 own_r2.cells own_r2.slots T (mkF m 38 #[.val (.int p0)] []) (own_P (.int (f2_38 p0)) h0) := by
    intro T locs X eT N 
    show own_Ends p e below s n0 _ _ _ _ (own_P (.int (if p0 < (216 : Int32) then (f2_52 p0) else (if (246 : Int32) < p0 then (f2_52 p0) else (1 : Int32)))) h0)
    refine own_go (T' := T) (g' := (mkF m 42 #[.val (.int p0)] [(.int (216 : Int32)), (.int p0)])) (fun t k => ?_) ?_
    · show Steps p.tables e below (T.setTop (mkF m 38 #[.val (.int p0)] [])) t
      refine XS.iloadN X.here hx rfl (hb hby d2_38) rfl ?_
      show Steps p.tables e below (T.setTop (mkF m 39 #[.val (.int p0)] [(.int p0)])) _
      refine XS.sipush X.here hx rfl (hb hby d2_39) ?_
      show Steps p.tables e below (T.setTop (mkF m 42 #[.val (.int p0)] [(.int (216 : Int32)), (.int p0)])) _
      exact k
    by_cases hc42_4 : p0 < (216 : Int32)
    · rw [if_pos hc42_4]
      refine own_go (T' := T) (g' := (mkF m 52 #[.val (.int p0)] [])) (fun t k => ?_) ?_
      · refine XS.icmpYes X.here hx rfl (pc0 := 42) (pc' := 52) rfl (hb hby d2_42) rfl (tlt hc42_4).1 (by decide) (by decide) ?_
        exact k
      exact w_f2_52 X eT N 
    · rw [if_neg hc42_4]
      refine own_go (T' := T) (g' := (mkF m 45 #[.val (.int p0)] [])) (fun t k => ?_) ?_
      · refine XS.icmpNo X.here hx rfl (hb hby d2_42) rfl (flt hc42_4).1 ?_
        exact k
      refine own_go (T' := T) (g' := (mkF m 49 #[.val (.int p0)] [(.int (246 : Int32)), (.int p0)])) (fun t k => ?_) ?_
      · show Steps p.tables e below (T.setTop (mkF m 45 #[.val (.int p0)] [])) t
        refine XS.iloadN X.here hx rfl (hb hby d2_45) rfl ?_
        show Steps p.tables e below (T.setTop (mkF m 46 #[.val (.int p0)] [(.int p0)])) _
        refine XS.sipush X.here hx rfl (hb hby d2_46) ?_
        show Steps p.tables e below (T.setTop (mkF m 49 #[.val (.int p0)] [(.int (246 : Int32)), (.int p0)])) _
        exact k
      by_cases hc49_25 : (246 : Int32) < p0
      · rw [if_pos hc49_25]
        refine own_go (T' := T) (g' := (mkF m 52 #[.val (.int p0)] [])) (fun t k => ?_) ?_
        · refine XS.icmpNo X.here hx rfl (hb hby d2_49) rfl (tlt hc49_25).2.2.2 ?_
          exact k
        exact w_f2_52 X eT N 
      · rw [if_neg hc49_25]
        refine own_go (T' := T) (g' := (mkF m 185 #[.val (.int p0)] [])) (fun t k => ?_) ?_
        · refine XS.icmpYes X.here hx rfl (pc0 := 49) (pc' := 185) rfl (hb hby d2_49) rfl (flt hc49_25).2.2.2 (by decide) (by decide) ?_
          exact k
        refine own_go (T' := T) (g' := (mkF m 190 #[.val (.int p0)] [(.int (1 : Int32))])) (fun t k => ?_) ?_
        · show Steps p.tables e below (T.setTop (mkF m 185 #[.val (.int p0)] [])) t
          refine XS.iconst X.here hx rfl (hb hby d2_185) ?_
          show Steps p.tables e below (T.setTop (mkF m 186 #[.val (.int p0)] [(.int (1 : Int32))])) _
          refine XS.goto X.here hx rfl (pc0 := 186) (pc' := 190) rfl (hb hby d2_186) (by decide) (by decide) ?_
          show Steps p.tables e below (T.setTop (mkF m 190 #[.val (.int p0)] [(.int (1 : Int32))])) _
          exact k
        exact own_retN X hx hlk hret (by simp) (hb hby d2_190) (by decide) (by decide) N ⟨rfl, eT⟩
  have w_f2_24 : ∀ {T : State} {locs : List Loc} (X : Stand p l e own_r2 s m #[(.int p0)] below meth c T locs 0 0) (eT : T.heap = h0) (N : Fr n0 locs), own_Ends p e below s n0 own_r2.cells own_r2.slots T (mkF m 24 #[.val (.int p0)] []) (own_P (.int (f2_24 p0)) h0) := by
    intro T locs X eT N 
    show own_Ends p e below s n0 _ _ _ _ (own_P (.int (if p0 < (192 : Int32) then (f2_38 p0) else (if (214 : Int32) < p0 then (f2_38 p0) else (1 : Int32)))) h0)
    refine own_go (T' := T) (g' := (mkF m 28 #[.val (.int p0)] [(.int (192 : Int32)), (.int p0)])) (fun t k => ?_) ?_
    · show Steps p.tables e below (T.setTop (mkF m 24 #[.val (.int p0)] [])) t
      refine XS.iloadN X.here hx rfl (hb hby d2_24) rfl ?_
      show Steps p.tables e below (T.setTop (mkF m 25 #[.val (.int p0)] [(.int p0)])) _
      refine XS.sipush X.here hx rfl (hb hby d2_25) ?_
      show Steps p.tables e below (T.setTop (mkF m 28 #[.val (.int p0)] [(.int (192 : Int32)), (.int p0)])) _
      exact k
    by_cases hc28_3 : p0 < (192 : Int32)
    · rw [if_pos hc28_3]
      refine own_go (T' := T) (g' := (mkF m 38 #[.val (.int p0)] [])) (fun t k => ?_) ?_
      · refine XS.icmpYes X.here hx rfl (pc0 := 28) (pc' := 38) rfl (hb hby d2_28) rfl (tlt hc28_3).1 (by decide) (by decide) ?_
        exact k
      exact w_f2_38 X eT N 
    · rw [if_neg hc28_3]
      refine own_go (T' := T) (g' := (mkF m 31 #[.val (.int p0)] [])) (fun t k => ?_) ?_
      · refine XS.icmpNo X.here hx rfl (hb hby d2_28) rfl (flt hc28_3).1 ?_
        exact k
      refine own_go (T' := T) (g' := (mkF m 35 #[.val (.int p0)] [(.int (214 : Int32)), (.int p0)])) (fun t k => ?_) ?_
      · show Steps p.tables e below (T.setTop (mkF m 31 #[.val (.int p0)] [])) t
        refine XS.iloadN X.here hx rfl (hb hby d2_31) rfl ?_
        show Steps p.tables e below (T.setTop (mkF m 32 #[.val (.int p0)] [(.int p0)])) _
        refine XS.sipush X.here hx rfl (hb hby d2_32) ?_
        show Steps p.tables e below (T.setTop (mkF m 35 #[.val (.int p0)] [(.int (214 : Int32)), (.int p0)])) _
        exact k
      by_cases hc35_26 : (214 : Int32) < p0
      · rw [if_pos hc35_26]
        refine own_go (T' := T) (g' := (mkF m 38 #[.val (.int p0)] [])) (fun t k => ?_) ?_
        · refine XS.icmpNo X.here hx rfl (hb hby d2_35) rfl (tlt hc35_26).2.2.2 ?_
          exact k
        exact w_f2_38 X eT N 
      · rw [if_neg hc35_26]
        refine own_go (T' := T) (g' := (mkF m 185 #[.val (.int p0)] [])) (fun t k => ?_) ?_
        · refine XS.icmpYes X.here hx rfl (pc0 := 35) (pc' := 185) rfl (hb hby d2_35) rfl (flt hc35_26).2.2.2 (by decide) (by decide) ?_
          exact k
        refine own_go (T' := T) (g' := (mkF m 190 #[.val (.int p0)] [(.int (1 : Int32))])) (fun t k => ?_) ?_
        · show Steps p.tables e below (T.setTop (mkF m 185 #[.val (.int p0)] [])) t
          refine XS.iconst X.here hx rfl (hb hby d2_185) ?_
          show Steps p.tables e below (T.setTop (mkF m 186 #[.val (.int p0)] [(.int (1 : Int32))])) _
          refine XS.goto X.here hx rfl (pc0 := 186) (pc' := 190) rfl (hb hby d2_186) (by decide) (by decide) ?_
          show Steps p.tables e below (T.setTop (mkF m 190 #[.val (.int p0)] [(.int (1 : Int32))])) _
          exact k
        exact own_retN X hx hlk hret (by simp) (hb hby d2_190) (by decide) (by decide) N ⟨rfl, eT⟩
  have w_f2_12 : ∀ {T : State} {locs : List Loc} (X : Stand p l e own_r2 s m #[(.int p0)] below meth c T locs 0 0) (eT : T.heap = h0) (N : Fr n0 locs), own_Ends p e below s n0 own_r2.cells own_r2.slots T (mkF m 12 #[.val (.int p0)] []) (own_P (.int (f2_12 p0)) h0) := by
    intro T locs X eT N 
    show own_Ends p e below s n0 _ _ _ _ (own_P (.int (if p0 < (97 : Int32) then (f2_24 p0) else (if (122 : Int32) < p0 then (f2_24 p0) else (1 : Int32)))) h0)
    refine own_go (T' := T) (g' := (mkF m 15 #[.val (.int p0)] [(.int (97 : Int32)), (.int p0)])) (fun t k => ?_) ?_
    · show Steps p.tables e below (T.setTop (mkF m 12 #[.val (.int p0)] [])) t
      refine XS.iloadN X.here hx rfl (hb hby d2_12) rfl ?_
      show Steps p.tables e below (T.setTop (mkF m 13 #[.val (.int p0)] [(.int p0)])) _
      refine XS.bipush X.here hx rfl (hb hby d2_13) ?_
      show Steps p.tables e below (T.setTop (mkF m 15 #[.val (.int p0)] [(.int (97 : Int32)), (.int p0)])) _
      exact k
    by_cases hc15_2 : p0 < (97 : Int32)
    · rw [if_pos hc15_2]
      refine own_go (T' := T) (g' := (mkF m 24 #[.val (.int p0)] [])) (fun t k => ?_) ?_
      · refine XS.icmpYes X.here hx rfl (pc0 := 15) (pc' := 24) rfl (hb hby d2_15) rfl (tlt hc15_2).1 (by decide) (by decide) ?_
        exact k
      exact w_f2_24 X eT N 
    · rw [if_neg hc15_2]
      refine own_go (T' := T) (g' := (mkF m 18 #[.val (.int p0)] [])) (fun t k => ?_) ?_
      · refine XS.icmpNo X.here hx rfl (hb hby d2_15) rfl (flt hc15_2).1 ?_
        exact k
      refine own_go (T' := T) (g' := (mkF m 21 #[.val (.int p0)] [(.int (122 : Int32)), (.int p0)])) (fun t k => ?_) ?_
      · show Steps p.tables e below (T.setTop (mkF m 18 #[.val (.int p0)] [])) t
        refine XS.iloadN X.here hx rfl (hb hby d2_18) rfl ?_
        show Steps p.tables e below (T.setTop (mkF m 19 #[.val (.int p0)] [(.int p0)])) _
        refine XS.bipush X.here hx rfl (hb hby d2_19) ?_
        show Steps p.tables e below (T.setTop (mkF m 21 #[.val (.int p0)] [(.int (122 : Int32)), (.int p0)])) _
        exact k
      by_cases hc21_27 : (122 : Int32) < p0
      · rw [if_pos hc21_27]
        refine own_go (T' := T) (g' := (mkF m 24 #[.val (.int p0)] [])) (fun t k => ?_) ?_
        · refine XS.icmpNo X.here hx rfl (hb hby d2_21) rfl (tlt hc21_27).2.2.2 ?_
          exact k
        exact w_f2_24 X eT N 
      · rw [if_neg hc21_27]
        refine own_go (T' := T) (g' := (mkF m 185 #[.val (.int p0)] [])) (fun t k => ?_) ?_
        · refine XS.icmpYes X.here hx rfl (pc0 := 21) (pc' := 185) rfl (hb hby d2_21) rfl (flt hc21_27).2.2.2 (by decide) (by decide) ?_
          exact k
        refine own_go (T' := T) (g' := (mkF m 190 #[.val (.int p0)] [(.int (1 : Int32))])) (fun t k => ?_) ?_
        · show Steps p.tables e below (T.setTop (mkF m 185 #[.val (.int p0)] [])) t
          refine XS.iconst X.here hx rfl (hb hby d2_185) ?_
          show Steps p.tables e below (T.setTop (mkF m 186 #[.val (.int p0)] [(.int (1 : Int32))])) _
          refine XS.goto X.here hx rfl (pc0 := 186) (pc' := 190) rfl (hb hby d2_186) (by decide) (by decide) ?_
          show Steps p.tables e below (T.setTop (mkF m 190 #[.val (.int p0)] [(.int (1 : Int32))])) _
          exact k
        exact own_retN X hx hlk hret (by simp) (hb hby d2_190) (by decide) (by decide) N ⟨rfl, eT⟩
  show own_Ends p e below s n0 _ _ _ _ (own_P (.int (if p0 < (65 : Int32) then (f2_12 p0) else (if (90 : Int32) < p0 then (f2_12 p0) else (1 : Int32)))) h0)
  refine own_go (T' := s₁) (g' := (mkF m 3 #[.val (.int p0)] [(.int (65 : Int32)), (.int p0)])) (fun t k => ?_) ?_
  · show Steps p.tables e below (s₁.setTop (mkF m 0 #[.val (.int p0)] [])) t
    refine XS.iloadN X0.here hx rfl (hb hby d2_0) rfl ?_
    show Steps p.tables e below (s₁.setTop (mkF m 1 #[.val (.int p0)] [(.int p0)])) _
    refine XS.bipush X0.here hx rfl (hb hby d2_1) ?_
    show Steps p.tables e below (s₁.setTop (mkF m 3 #[.val (.int p0)] [(.int (65 : Int32)), (.int p0)])) _
    exact k
  by_cases hc3_1 : p0 < (65 : Int32)
  · rw [if_pos hc3_1]
    refine own_go (T' := s₁) (g' := (mkF m 12 #[.val (.int p0)] [])) (fun t k => ?_) ?_
    · refine XS.icmpYes X0.here hx rfl (pc0 := 3) (pc' := 12) rfl (hb hby d2_3) rfl (tlt hc3_1).1 (by decide) (by decide) ?_
      exact k
    exact w_f2_12 X0 e0 N0 
  · rw [if_neg hc3_1]
    refine own_go (T' := s₁) (g' := (mkF m 6 #[.val (.int p0)] [])) (fun t k => ?_) ?_
    · refine XS.icmpNo X0.here hx rfl (hb hby d2_3) rfl (flt hc3_1).1 ?_
      exact k
    refine own_go (T' := s₁) (g' := (mkF m 9 #[.val (.int p0)] [(.int (90 : Int32)), (.int p0)])) (fun t k => ?_) ?_
    · show Steps p.tables e below (s₁.setTop (mkF m 6 #[.val (.int p0)] [])) t
      refine XS.iloadN X0.here hx rfl (hb hby d2_6) rfl ?_
      show Steps p.tables e below (s₁.setTop (mkF m 7 #[.val (.int p0)] [(.int p0)])) _
      refine XS.bipush X0.here hx rfl (hb hby d2_7) ?_
      show Steps p.tables e below (s₁.setTop (mkF m 9 #[.val (.int p0)] [(.int (90 : Int32)), (.int p0)])) _
      exact k
    by_cases hc9_28 : (90 : Int32) < p0
    · rw [if_pos hc9_28]
      refine own_go (T' := s₁) (g' := (mkF m 12 #[.val (.int p0)] [])) (fun t k => ?_) ?_
      · refine XS.icmpNo X0.here hx rfl (hb hby d2_9) rfl (tlt hc9_28).2.2.2 ?_
        exact k
      exact w_f2_12 X0 e0 N0 
    · rw [if_neg hc9_28]
      refine own_go (T' := s₁) (g' := (mkF m 185 #[.val (.int p0)] [])) (fun t k => ?_) ?_
      · refine XS.icmpYes X0.here hx rfl (pc0 := 9) (pc' := 185) rfl (hb hby d2_9) rfl (flt hc9_28).2.2.2 (by decide) (by decide) ?_
        exact k
      refine own_go (T' := s₁) (g' := (mkF m 190 #[.val (.int p0)] [(.int (1 : Int32))])) (fun t k => ?_) ?_
      · show Steps p.tables e below (s₁.setTop (mkF m 185 #[.val (.int p0)] [])) t
        refine XS.iconst X0.here hx rfl (hb hby d2_185) ?_
        show Steps p.tables e below (s₁.setTop (mkF m 186 #[.val (.int p0)] [(.int (1 : Int32))])) _
        refine XS.goto X0.here hx rfl (pc0 := 186) (pc' := 190) rfl (hb hby d2_186) (by decide) (by decide) ?_
        show Steps p.tables e below (s₁.setTop (mkF m 190 #[.val (.int p0)] [(.int (1 : Int32))])) _
        exact k
      exact own_retN X0 hx hlk hret (by simp) (hb hby d2_190) (by decide) (by decide) N0 ⟨rfl, e0⟩
theorem own_lt {x c : Int32} {k : Int} (hc : c.toInt = k) (h : x.toInt < k) : x < c := by rw [Int32.lt_iff_toInt_lt, hc]; exact h
theorem own_ge {x c : Int32} {k : Int} (hc : c.toInt = k) (h : k ≤ x.toInt) : ¬ x < c := by rw [Int32.lt_iff_toInt_lt, hc]; omega
theorem own_gt {x c : Int32} {k : Int} (hc : c.toInt = k) (h : k < x.toInt) : c < x := by rw [Int32.lt_iff_toInt_lt, hc]; exact h
theorem own_le {x c : Int32} {k : Int} (hc : c.toInt = k) (h : x.toInt ≤ k) : ¬ c < x := by rw [Int32.lt_iff_toInt_lt, hc]; omega
theorem own_ne {x c : Int32} {k : Int} (hc : c.toInt = k) (h : x.toInt < k ∨ k < x.toInt) : ¬ x = c := by intro e; rw [e, hc] at h; omega
theorem own_eq {x c : Int32} {k : Int} (hc : c.toInt = k) (h : x.toInt = k) : x = c := Int32.toInt_inj.mp (by rw [h, hc])
theorem own_iv_0 (x : Int32) (h2 : x.toInt ≤ 64) : f2_0 x = if f1_0 x = 0 then (1 : Int32) else 0 := by
  have e1 : f1_0 x = 1 := by rw [f1_0, if_pos (own_lt (c := 65) (k := 65) (by decide) (by omega))]
  have e2 : f2_0 x = 0 := by rw [f2_0, if_pos (own_lt (c := 65) (k := 65) (by decide) (by omega)), f2_12, if_pos (own_lt (c := 97) (k := 97) (by decide) (by omega)), f2_24, if_pos (own_lt (c := 192) (k := 192) (by decide) (by omega)), f2_38, if_pos (own_lt (c := 216) (k := 216) (by decide) (by omega)), f2_52, if_pos (own_lt (c := 248) (k := 248) (by decide) (by omega)), f2_66, if_pos (own_lt (c := 880) (k := 880) (by decide) (by omega)), f2_80, if_pos (own_lt (c := 895) (k := 895) (by decide) (by omega)), f2_94, if_pos (own_lt (c := 8204) (k := 8204) (by decide) (by omega)), f2_108, if_pos (own_lt (c := 8304) (k := 8304) (by decide) (by omega)), f2_122, if_pos (own_lt (c := 11264) (k := 11264) (by decide) (by omega)), f2_136, if_pos (own_lt (c := 12289) (k := 12289) (by decide) (by omega)), f2_149, if_pos (own_lt (c := 63744) (k := 63744) (by decide) (by omega)), f2_161, if_pos (own_lt (c := 65008) (k := 65008) (by decide) (by omega)), f2_173, if_pos (own_lt (c := 65536) (k := 65536) (by decide) (by omega))]
  rw [e1, e2]; rfl
theorem own_iv_1 (x : Int32) (h1 : 65 ≤ x.toInt) (h2 : x.toInt ≤ 90) : f2_0 x = if f1_0 x = 0 then (1 : Int32) else 0 := by
  have e1 : f1_0 x = 0 := by rw [f1_0, if_neg (own_ge (c := 65) (k := 65) (by decide) (by omega)), if_pos (own_lt (c := 91) (k := 91) (by decide) (by omega)), f1_18, if_pos (own_lt (c := 123) (k := 123) (by decide) (by omega)), f1_31, if_neg (own_ne (c := 215) (k := 215) (by decide) (by omega)), if_neg (own_ne (c := 247) (k := 247) (by decide) (by omega)), if_pos (own_lt (c := 768) (k := 768) (by decide) (by omega)), f1_59, if_neg (own_ne (c := 894) (k := 894) (by decide) (by omega)), if_pos (own_lt (c := 8192) (k := 8192) (by decide) (by omega)), f1_80, if_pos (own_lt (c := 8206) (k := 8206) (by decide) (by omega)), f1_94, if_pos (own_lt (c := 8592) (k := 8592) (by decide) (by omega)), f1_108, if_pos (own_lt (c := 12272) (k := 12272) (by decide) (by omega)), f1_122, if_pos (own_lt (c := 55296) (k := 55296) (by decide) (by omega)), f1_134, if_pos (own_lt (c := 64976) (k := 64976) (by decide) (by omega)), f1_146, if_pos (own_lt (c := 65534) (k := 65534) (by decide) (by omega)), f1_158, if_neg (own_le (c := 983039) (k := 983039) (by decide) (by omega))]
  have e2 : f2_0 x = 1 := by rw [f2_0, if_neg (own_ge (c := 65) (k := 65) (by decide) (by omega)), if_neg (own_le (c := 90) (k := 90) (by decide) (by omega))]
  rw [e1, e2]; rfl
theorem own_iv_2 (x : Int32) (h1 : 91 ≤ x.toInt) (h2 : x.toInt ≤ 96) : f2_0 x = if f1_0 x = 0 then (1 : Int32) else 0 := by
  have e1 : f1_0 x = 1 := by rw [f1_0, if_neg (own_ge (c := 65) (k := 65) (by decide) (by omega)), if_neg (own_ge (c := 91) (k := 91) (by decide) (by omega)), if_neg (own_le (c := 96) (k := 96) (by decide) (by omega))]
  have e2 : f2_0 x = 0 := by rw [f2_0, if_neg (own_ge (c := 65) (k := 65) (by decide) (by omega)), if_pos (own_gt (c := 90) (k := 90) (by decide) (by omega)), f2_12, if_pos (own_lt (c := 97) (k := 97) (by decide) (by omega)), f2_24, if_pos (own_lt (c := 192) (k := 192) (by decide) (by omega)), f2_38, if_pos (own_lt (c := 216) (k := 216) (by decide) (by omega)), f2_52, if_pos (own_lt (c := 248) (k := 248) (by decide) (by omega)), f2_66, if_pos (own_lt (c := 880) (k := 880) (by decide) (by omega)), f2_80, if_pos (own_lt (c := 895) (k := 895) (by decide) (by omega)), f2_94, if_pos (own_lt (c := 8204) (k := 8204) (by decide) (by omega)), f2_108, if_pos (own_lt (c := 8304) (k := 8304) (by decide) (by omega)), f2_122, if_pos (own_lt (c := 11264) (k := 11264) (by decide) (by omega)), f2_136, if_pos (own_lt (c := 12289) (k := 12289) (by decide) (by omega)), f2_149, if_pos (own_lt (c := 63744) (k := 63744) (by decide) (by omega)), f2_161, if_pos (own_lt (c := 65008) (k := 65008) (by decide) (by omega)), f2_173, if_pos (own_lt (c := 65536) (k := 65536) (by decide) (by omega))]
  rw [e1, e2]; rfl
theorem own_iv_3 (x : Int32) (h1 : 97 ≤ x.toInt) (h2 : x.toInt ≤ 122) : f2_0 x = if f1_0 x = 0 then (1 : Int32) else 0 := by
  have e1 : f1_0 x = 0 := by rw [f1_0, if_neg (own_ge (c := 65) (k := 65) (by decide) (by omega)), if_neg (own_ge (c := 91) (k := 91) (by decide) (by omega)), if_pos (own_gt (c := 96) (k := 96) (by decide) (by omega)), f1_18, if_pos (own_lt (c := 123) (k := 123) (by decide) (by omega)), f1_31, if_neg (own_ne (c := 215) (k := 215) (by decide) (by omega)), if_neg (own_ne (c := 247) (k := 247) (by decide) (by omega)), if_pos (own_lt (c := 768) (k := 768) (by decide) (by omega)), f1_59, if_neg (own_ne (c := 894) (k := 894) (by decide) (by omega)), if_pos (own_lt (c := 8192) (k := 8192) (by decide) (by omega)), f1_80, if_pos (own_lt (c := 8206) (k := 8206) (by decide) (by omega)), f1_94, if_pos (own_lt (c := 8592) (k := 8592) (by decide) (by omega)), f1_108, if_pos (own_lt (c := 12272) (k := 12272) (by decide) (by omega)), f1_122, if_pos (own_lt (c := 55296) (k := 55296) (by decide) (by omega)), f1_134, if_pos (own_lt (c := 64976) (k := 64976) (by decide) (by omega)), f1_146, if_pos (own_lt (c := 65534) (k := 65534) (by decide) (by omega)), f1_158, if_neg (own_le (c := 983039) (k := 983039) (by decide) (by omega))]
  have e2 : f2_0 x = 1 := by rw [f2_0, if_neg (own_ge (c := 65) (k := 65) (by decide) (by omega)), if_pos (own_gt (c := 90) (k := 90) (by decide) (by omega)), f2_12, if_neg (own_ge (c := 97) (k := 97) (by decide) (by omega)), if_neg (own_le (c := 122) (k := 122) (by decide) (by omega))]
  rw [e1, e2]; rfl
theorem own_iv_4 (x : Int32) (h1 : 123 ≤ x.toInt) (h2 : x.toInt ≤ 191) : f2_0 x = if f1_0 x = 0 then (1 : Int32) else 0 := by
  have e1 : f1_0 x = 1 := by rw [f1_0, if_neg (own_ge (c := 65) (k := 65) (by decide) (by omega)), if_neg (own_ge (c := 91) (k := 91) (by decide) (by omega)), if_pos (own_gt (c := 96) (k := 96) (by decide) (by omega)), f1_18, if_neg (own_ge (c := 123) (k := 123) (by decide) (by omega)), if_neg (own_le (c := 191) (k := 191) (by decide) (by omega))]
  have e2 : f2_0 x = 0 := by rw [f2_0, if_neg (own_ge (c := 65) (k := 65) (by decide) (by omega)), if_pos (own_gt (c := 90) (k := 90) (by decide) (by omega)), f2_12, if_neg (own_ge (c := 97) (k := 97) (by decide) (by omega)), if_pos (own_gt (c := 122) (k := 122) (by decide) (by omega)), f2_24, if_pos (own_lt (c := 192) (k := 192) (by decide) (by omega)), f2_38, if_pos (own_lt (c := 216) (k := 216) (by decide) (by omega)), f2_52, if_pos (own_lt (c := 248) (k := 248) (by decide) (by omega)), f2_66, if_pos (own_lt (c := 880) (k := 880) (by decide) (by omega)), f2_80, if_pos (own_lt (c := 895) (k := 895) (by decide) (by omega)), f2_94, if_pos (own_lt (c := 8204) (k := 8204) (by decide) (by omega)), f2_108, if_pos (own_lt (c := 8304) (k := 8304) (by decide) (by omega)), f2_122, if_pos (own_lt (c := 11264) (k := 11264) (by decide) (by omega)), f2_136, if_pos (own_lt (c := 12289) (k := 12289) (by decide) (by omega)), f2_149, if_pos (own_lt (c := 63744) (k := 63744) (by decide) (by omega)), f2_161, if_pos (own_lt (c := 65008) (k := 65008) (by decide) (by omega)), f2_173, if_pos (own_lt (c := 65536) (k := 65536) (by decide) (by omega))]
  rw [e1, e2]; rfl
theorem own_iv_5 (x : Int32) (h1 : 192 ≤ x.toInt) (h2 : x.toInt ≤ 214) : f2_0 x = if f1_0 x = 0 then (1 : Int32) else 0 := by
  have e1 : f1_0 x = 0 := by rw [f1_0, if_neg (own_ge (c := 65) (k := 65) (by decide) (by omega)), if_neg (own_ge (c := 91) (k := 91) (by decide) (by omega)), if_pos (own_gt (c := 96) (k := 96) (by decide) (by omega)), f1_18, if_neg (own_ge (c := 123) (k := 123) (by decide) (by omega)), if_pos (own_gt (c := 191) (k := 191) (by decide) (by omega)), f1_31, if_neg (own_ne (c := 215) (k := 215) (by decide) (by omega)), if_neg (own_ne (c := 247) (k := 247) (by decide) (by omega)), if_pos (own_lt (c := 768) (k := 768) (by decide) (by omega)), f1_59, if_neg (own_ne (c := 894) (k := 894) (by decide) (by omega)), if_pos (own_lt (c := 8192) (k := 8192) (by decide) (by omega)), f1_80, if_pos (own_lt (c := 8206) (k := 8206) (by decide) (by omega)), f1_94, if_pos (own_lt (c := 8592) (k := 8592) (by decide) (by omega)), f1_108, if_pos (own_lt (c := 12272) (k := 12272) (by decide) (by omega)), f1_122, if_pos (own_lt (c := 55296) (k := 55296) (by decide) (by omega)), f1_134, if_pos (own_lt (c := 64976) (k := 64976) (by decide) (by omega)), f1_146, if_pos (own_lt (c := 65534) (k := 65534) (by decide) (by omega)), f1_158, if_neg (own_le (c := 983039) (k := 983039) (by decide) (by omega))]
  have e2 : f2_0 x = 1 := by rw [f2_0, if_neg (own_ge (c := 65) (k := 65) (by decide) (by omega)), if_pos (own_gt (c := 90) (k := 90) (by decide) (by omega)), f2_12, if_neg (own_ge (c := 97) (k := 97) (by decide) (by omega)), if_pos (own_gt (c := 122) (k := 122) (by decide) (by omega)), f2_24, if_neg (own_ge (c := 192) (k := 192) (by decide) (by omega)), if_neg (own_le (c := 214) (k := 214) (by decide) (by omega))]
  rw [e1, e2]; rfl
theorem own_iv_6 (x : Int32) (h1 : 215 ≤ x.toInt) (h2 : x.toInt ≤ 215) : f2_0 x = if f1_0 x = 0 then (1 : Int32) else 0 := by
  have e1 : f1_0 x = 1 := by rw [f1_0, if_neg (own_ge (c := 65) (k := 65) (by decide) (by omega)), if_neg (own_ge (c := 91) (k := 91) (by decide) (by omega)), if_pos (own_gt (c := 96) (k := 96) (by decide) (by omega)), f1_18, if_neg (own_ge (c := 123) (k := 123) (by decide) (by omega)), if_pos (own_gt (c := 191) (k := 191) (by decide) (by omega)), f1_31, if_pos (own_eq (c := 215) (k := 215) (by decide) (by omega))]
  have e2 : f2_0 x = 0 := by rw [f2_0, if_neg (own_ge (c := 65) (k := 65) (by decide) (by omega)), if_pos (own_gt (c := 90) (k := 90) (by decide) (by omega)), f2_12, if_neg (own_ge (c := 97) (k := 97) (by decide) (by omega)), if_pos (own_gt (c := 122) (k := 122) (by decide) (by omega)), f2_24, if_neg (own_ge (c := 192) (k := 192) (by decide) (by omega)), if_pos (own_gt (c := 214) (k := 214) (by decide) (by omega)), f2_38, if_pos (own_lt (c := 216) (k := 216) (by decide) (by omega)), f2_52, if_pos (own_lt (c := 248) (k := 248) (by decide) (by omega)), f2_66, if_pos (own_lt (c := 880) (k := 880) (by decide) (by omega)), f2_80, if_pos (own_lt (c := 895) (k := 895) (by decide) (by omega)), f2_94, if_pos (own_lt (c := 8204) (k := 8204) (by decide) (by omega)), f2_108, if_pos (own_lt (c := 8304) (k := 8304) (by decide) (by omega)), f2_122, if_pos (own_lt (c := 11264) (k := 11264) (by decide) (by omega)), f2_136, if_pos (own_lt (c := 12289) (k := 12289) (by decide) (by omega)), f2_149, if_pos (own_lt (c := 63744) (k := 63744) (by decide) (by omega)), f2_161, if_pos (own_lt (c := 65008) (k := 65008) (by decide) (by omega)), f2_173, if_pos (own_lt (c := 65536) (k := 65536) (by decide) (by omega))]
  rw [e1, e2]; rfl
theorem own_iv_7 (x : Int32) (h1 : 216 ≤ x.toInt) (h2 : x.toInt ≤ 246) : f2_0 x = if f1_0 x = 0 then (1 : Int32) else 0 := by
  have e1 : f1_0 x = 0 := by rw [f1_0, if_neg (own_ge (c := 65) (k := 65) (by decide) (by omega)), if_neg (own_ge (c := 91) (k := 91) (by decide) (by omega)), if_pos (own_gt (c := 96) (k := 96) (by decide) (by omega)), f1_18, if_neg (own_ge (c := 123) (k := 123) (by decide) (by omega)), if_pos (own_gt (c := 191) (k := 191) (by decide) (by omega)), f1_31, if_neg (own_ne (c := 215) (k := 215) (by decide) (by omega)), if_neg (own_ne (c := 247) (k := 247) (by decide) (by omega)), if_pos (own_lt (c := 768) (k := 768) (by decide) (by omega)), f1_59, if_neg (own_ne (c := 894) (k := 894) (by decide) (by omega)), if_pos (own_lt (c := 8192) (k := 8192) (by decide) (by omega)), f1_80, if_pos (own_lt (c := 8206) (k := 8206) (by decide) (by omega)), f1_94, if_pos (own_lt (c := 8592) (k := 8592) (by decide) (by omega)), f1_108, if_pos (own_lt (c := 12272) (k := 12272) (by decide) (by omega)), f1_122, if_pos (own_lt (c := 55296) (k := 55296) (by decide) (by omega)), f1_134, if_pos (own_lt (c := 64976) (k := 64976) (by decide) (by omega)), f1_146, if_pos (own_lt (c := 65534) (k := 65534) (by decide) (by omega)), f1_158, if_neg (own_le (c := 983039) (k := 983039) (by decide) (by omega))]
  have e2 : f2_0 x = 1 := by rw [f2_0, if_neg (own_ge (c := 65) (k := 65) (by decide) (by omega)), if_pos (own_gt (c := 90) (k := 90) (by decide) (by omega)), f2_12, if_neg (own_ge (c := 97) (k := 97) (by decide) (by omega)), if_pos (own_gt (c := 122) (k := 122) (by decide) (by omega)), f2_24, if_neg (own_ge (c := 192) (k := 192) (by decide) (by omega)), if_pos (own_gt (c := 214) (k := 214) (by decide) (by omega)), f2_38, if_neg (own_ge (c := 216) (k := 216) (by decide) (by omega)), if_neg (own_le (c := 246) (k := 246) (by decide) (by omega))]
  rw [e1, e2]; rfl
theorem own_iv_8 (x : Int32) (h1 : 247 ≤ x.toInt) (h2 : x.toInt ≤ 247) : f2_0 x = if f1_0 x = 0 then (1 : Int32) else 0 := by
  have e1 : f1_0 x = 1 := by rw [f1_0, if_neg (own_ge (c := 65) (k := 65) (by decide) (by omega)), if_neg (own_ge (c := 91) (k := 91) (by decide) (by omega)), if_pos (own_gt (c := 96) (k := 96) (by decide) (by omega)), f1_18, if_neg (own_ge (c := 123) (k := 123) (by decide) (by omega)), if_pos (own_gt (c := 191) (k := 191) (by decide) (by omega)), f1_31, if_neg (own_ne (c := 215) (k := 215) (by decide) (by omega)), if_pos (own_eq (c := 247) (k := 247) (by decide) (by omega))]
  have e2 : f2_0 x = 0 := by rw [f2_0, if_neg (own_ge (c := 65) (k := 65) (by decide) (by omega)), if_pos (own_gt (c := 90) (k := 90) (by decide) (by omega)), f2_12, if_neg (own_ge (c := 97) (k := 97) (by decide) (by omega)), if_pos (own_gt (c := 122) (k := 122) (by decide) (by omega)), f2_24, if_neg (own_ge (c := 192) (k := 192) (by decide) (by omega)), if_pos (own_gt (c := 214) (k := 214) (by decide) (by omega)), f2_38, if_neg (own_ge (c := 216) (k := 216) (by decide) (by omega)), if_pos (own_gt (c := 246) (k := 246) (by decide) (by omega)), f2_52, if_pos (own_lt (c := 248) (k := 248) (by decide) (by omega)), f2_66, if_pos (own_lt (c := 880) (k := 880) (by decide) (by omega)), f2_80, if_pos (own_lt (c := 895) (k := 895) (by decide) (by omega)), f2_94, if_pos (own_lt (c := 8204) (k := 8204) (by decide) (by omega)), f2_108, if_pos (own_lt (c := 8304) (k := 8304) (by decide) (by omega)), f2_122, if_pos (own_lt (c := 11264) (k := 11264) (by decide) (by omega)), f2_136, if_pos (own_lt (c := 12289) (k := 12289) (by decide) (by omega)), f2_149, if_pos (own_lt (c := 63744) (k := 63744) (by decide) (by omega)), f2_161, if_pos (own_lt (c := 65008) (k := 65008) (by decide) (by omega)), f2_173, if_pos (own_lt (c := 65536) (k := 65536) (by decide) (by omega))]
  rw [e1, e2]; rfl
theorem own_iv_9 (x : Int32) (h1 : 248 ≤ x.toInt) (h2 : x.toInt ≤ 767) : f2_0 x = if f1_0 x = 0 then (1 : Int32) else 0 := by
  have e1 : f1_0 x = 0 := by rw [f1_0, if_neg (own_ge (c := 65) (k := 65) (by decide) (by omega)), if_neg (own_ge (c := 91) (k := 91) (by decide) (by omega)), if_pos (own_gt (c := 96) (k := 96) (by decide) (by omega)), f1_18, if_neg (own_ge (c := 123) (k := 123) (by decide) (by omega)), if_pos (own_gt (c := 191) (k := 191) (by decide) (by omega)), f1_31, if_neg (own_ne (c := 215) (k := 215) (by decide) (by omega)), if_neg (own_ne (c := 247) (k := 247) (by decide) (by omega)), if_pos (own_lt (c := 768) (k := 768) (by decide) (by omega)), f1_59, if_neg (own_ne (c := 894) (k := 894) (by decide) (by omega)), if_pos (own_lt (c := 8192) (k := 8192) (by decide) (by omega)), f1_80, if_pos (own_lt (c := 8206) (k := 8206) (by decide) (by omega)), f1_94, if_pos (own_lt (c := 8592) (k := 8592) (by decide) (by omega)), f1_108, if_pos (own_lt (c := 12272) (k := 12272) (by decide) (by omega)), f1_122, if_pos (own_lt (c := 55296) (k := 55296) (by decide) (by omega)), f1_134, if_pos (own_lt (c := 64976) (k := 64976) (by decide) (by omega)), f1_146, if_pos (own_lt (c := 65534) (k := 65534) (by decide) (by omega)), f1_158, if_neg (own_le (c := 983039) (k := 983039) (by decide) (by omega))]
  have e2 : f2_0 x = 1 := by rw [f2_0, if_neg (own_ge (c := 65) (k := 65) (by decide) (by omega)), if_pos (own_gt (c := 90) (k := 90) (by decide) (by omega)), f2_12, if_neg (own_ge (c := 97) (k := 97) (by decide) (by omega)), if_pos (own_gt (c := 122) (k := 122) (by decide) (by omega)), f2_24, if_neg (own_ge (c := 192) (k := 192) (by decide) (by omega)), if_pos (own_gt (c := 214) (k := 214) (by decide) (by omega)), f2_38, if_neg (own_ge (c := 216) (k := 216) (by decide) (by omega)), if_pos (own_gt (c := 246) (k := 246) (by decide) (by omega)), f2_52, if_neg (own_ge (c := 248) (k := 248) (by decide) (by omega)), if_neg (own_le (c := 767) (k := 767) (by decide) (by omega))]
  rw [e1, e2]; rfl
theorem own_iv_10 (x : Int32) (h1 : 768 ≤ x.toInt) (h2 : x.toInt ≤ 879) : f2_0 x = if f1_0 x = 0 then (1 : Int32) else 0 := by
  have e1 : f1_0 x = 1 := by rw [f1_0, if_neg (own_ge (c := 65) (k := 65) (by decide) (by omega)), if_neg (own_ge (c := 91) (k := 91) (by decide) (by omega)), if_pos (own_gt (c := 96) (k := 96) (by decide) (by omega)), f1_18, if_neg (own_ge (c := 123) (k := 123) (by decide) (by omega)), if_pos (own_gt (c := 191) (k := 191) (by decide) (by omega)), f1_31, if_neg (own_ne (c := 215) (k := 215) (by decide) (by omega)), if_neg (own_ne (c := 247) (k := 247) (by decide) (by omega)), if_neg (own_ge (c := 768) (k := 768) (by decide) (by omega)), if_neg (own_le (c := 879) (k := 879) (by decide) (by omega))]
  have e2 : f2_0 x = 0 := by rw [f2_0, if_neg (own_ge (c := 65) (k := 65) (by decide) (by omega)), if_pos (own_gt (c := 90) (k := 90) (by decide) (by omega)), f2_12, if_neg (own_ge (c := 97) (k := 97) (by decide) (by omega)), if_pos (own_gt (c := 122) (k := 122) (by decide) (by omega)), f2_24, if_neg (own_ge (c := 192) (k := 192) (by decide) (by omega)), if_pos (own_gt (c := 214) (k := 214) (by decide) (by omega)), f2_38, if_neg (own_ge (c := 216) (k := 216) (by decide) (by omega)), if_pos (own_gt (c := 246) (k := 246) (by decide) (by omega)), f2_52, if_neg (own_ge (c := 248) (k := 248) (by decide) (by omega)), if_pos (own_gt (c := 767) (k := 767) (by decide) (by omega)), f2_66, if_pos (own_lt (c := 880) (k := 880) (by decide) (by omega)), f2_80, if_pos (own_lt (c := 895) (k := 895) (by decide) (by omega)), f2_94, if_pos (own_lt (c := 8204) (k := 8204) (by decide) (by omega)), f2_108, if_pos (own_lt (c := 8304) (k := 8304) (by decide) (by omega)), f2_122, if_pos (own_lt (c := 11264) (k := 11264) (by decide) (by omega)), f2_136, if_pos (own_lt (c := 12289) (k := 12289) (by decide) (by omega)), f2_149, if_pos (own_lt (c := 63744) (k := 63744) (by decide) (by omega)), f2_161, if_pos (own_lt (c := 65008) (k := 65008) (by decide) (by omega)), f2_173, if_pos (own_lt (c := 65536) (k := 65536) (by decide) (by omega))]
  rw [e1, e2]; rfl
theorem own_iv_11 (x : Int32) (h1 : 880 ≤ x.toInt) (h2 : x.toInt ≤ 893) : f2_0 x = if f1_0 x = 0 then (1 : Int32) else 0 := by
  have e1 : f1_0 x = 0 := by rw [f1_0, if_neg (own_ge (c := 65) (k := 65) (by decide) (by omega)), if_neg (own_ge (c := 91) (k := 91) (by decide) (by omega)), if_pos (own_gt (c := 96) (k := 96) (by decide) (by omega)), f1_18, if_neg (own_ge (c := 123) (k := 123) (by decide) (by omega)), if_pos (own_gt (c := 191) (k := 191) (by decide) (by omega)), f1_31, if_neg (own_ne (c := 215) (k := 215) (by decide) (by omega)), if_neg (own_ne (c := 247) (k := 247) (by decide) (by omega)), if_neg (own_ge (c := 768) (k := 768) (by decide) (by omega)), if_pos (own_gt (c := 879) (k := 879) (by decide) (by omega)), f1_59, if_neg (own_ne (c := 894) (k := 894) (by decide) (by omega)), if_pos (own_lt (c := 8192) (k := 8192) (by decide) (by omega)), f1_80, if_pos (own_lt (c := 8206) (k := 8206) (by decide) (by omega)), f1_94, if_pos (own_lt (c := 8592) (k := 8592) (by decide) (by omega)), f1_108, if_pos (own_lt (c := 12272) (k := 12272) (by decide) (by omega)), f1_122, if_pos (own_lt (c := 55296) (k := 55296) (by decide) (by omega)), f1_134, if_pos (own_lt (c := 64976) (k := 64976) (by decide) (by omega)), f1_146, if_pos (own_lt (c := 65534) (k := 65534) (by decide) (by omega)), f1_158, if_neg (own_le (c := 983039) (k := 983039) (by decide) (by omega))]
  have e2 : f2_0 x = 1 := by rw [f2_0, if_neg (own_ge (c := 65) (k := 65) (by decide) (by omega)), if_pos (own_gt (c := 90) (k := 90) (by decide) (by omega)), f2_12, if_neg (own_ge (c := 97) (k := 97) (by decide) (by omega)), if_pos (own_gt (c := 122) (k := 122) (by decide) (by omega)), f2_24, if_neg (own_ge (c := 192) (k := 192) (by decide) (by omega)), if_pos (own_gt (c := 214) (k := 214) (by decide) (by omega)), f2_38, if_neg (own_ge (c := 216) (k := 216) (by decide) (by omega)), if_pos (own_gt (c := 246) (k := 246) (by decide) (by omega)), f2_52, if_neg (own_ge (c := 248) (k := 248) (by decide) (by omega)), if_pos (own_gt (c := 767) (k := 767) (by decide) (by omega)), f2_66, if_neg (own_ge (c := 880) (k := 880) (by decide) (by omega)), if_neg (own_le (c := 893) (k := 893) (by decide) (by omega))]
  rw [e1, e2]; rfl
theorem own_iv_12 (x : Int32) (h1 : 894 ≤ x.toInt) (h2 : x.toInt ≤ 894) : f2_0 x = if f1_0 x = 0 then (1 : Int32) else 0 := by
  have e1 : f1_0 x = 1 := by rw [f1_0, if_neg (own_ge (c := 65) (k := 65) (by decide) (by omega)), if_neg (own_ge (c := 91) (k := 91) (by decide) (by omega)), if_pos (own_gt (c := 96) (k := 96) (by decide) (by omega)), f1_18, if_neg (own_ge (c := 123) (k := 123) (by decide) (by omega)), if_pos (own_gt (c := 191) (k := 191) (by decide) (by omega)), f1_31, if_neg (own_ne (c := 215) (k := 215) (by decide) (by omega)), if_neg (own_ne (c := 247) (k := 247) (by decide) (by omega)), if_neg (own_ge (c := 768) (k := 768) (by decide) (by omega)), if_pos (own_gt (c := 879) (k := 879) (by decide) (by omega)), f1_59, if_pos (own_eq (c := 894) (k := 894) (by decide) (by omega))]
  have e2 : f2_0 x = 0 := by rw [f2_0, if_neg (own_ge (c := 65) (k := 65) (by decide) (by omega)), if_pos (own_gt (c := 90) (k := 90) (by decide) (by omega)), f2_12, if_neg (own_ge (c := 97) (k := 97) (by decide) (by omega)), if_pos (own_gt (c := 122) (k := 122) (by decide) (by omega)), f2_24, if_neg (own_ge (c := 192) (k := 192) (by decide) (by omega)), if_pos (own_gt (c := 214) (k := 214) (by decide) (by omega)), f2_38, if_neg (own_ge (c := 216) (k := 216) (by decide) (by omega)), if_pos (own_gt (c := 246) (k := 246) (by decide) (by omega)), f2_52, if_neg (own_ge (c := 248) (k := 248) (by decide) (by omega)), if_pos (own_gt (c := 767) (k := 767) (by decide) (by omega)), f2_66, if_neg (own_ge (c := 880) (k := 880) (by decide) (by omega)), if_pos (own_gt (c := 893) (k := 893) (by decide) (by omega)), f2_80, if_pos (own_lt (c := 895) (k := 895) (by decide) (by omega)), f2_94, if_pos (own_lt (c := 8204) (k := 8204) (by decide) (by omega)), f2_108, if_pos (own_lt (c := 8304) (k := 8304) (by decide) (by omega)), f2_122, if_pos (own_lt (c := 11264) (k := 11264) (by decide) (by omega)), f2_136, if_pos (own_lt (c := 12289) (k := 12289) (by decide) (by omega)), f2_149, if_pos (own_lt (c := 63744) (k := 63744) (by decide) (by omega)), f2_161, if_pos (own_lt (c := 65008) (k := 65008) (by decide) (by omega)), f2_173, if_pos (own_lt (c := 65536) (k := 65536) (by decide) (by omega))]
  rw [e1, e2]; rfl
theorem own_iv_13 (x : Int32) (h1 : 895 ≤ x.toInt) (h2 : x.toInt ≤ 8191) : f2_0 x = if f1_0 x = 0 then (1 : Int32) else 0 := by
  have e1 : f1_0 x = 0 := by rw [f1_0, if_neg (own_ge (c := 65) (k := 65) (by decide) (by omega)), if_neg (own_ge (c := 91) (k := 91) (by decide) (by omega)), if_pos (own_gt (c := 96) (k := 96) (by decide) (by omega)), f1_18, if_neg (own_ge (c := 123) (k := 123) (by decide) (by omega)), if_pos (own_gt (c := 191) (k := 191) (by decide) (by omega)), f1_31, if_neg (own_ne (c := 215) (k := 215) (by decide) (by omega)), if_neg (own_ne (c := 247) (k := 247) (by decide) (by omega)), if_neg (own_ge (c := 768) (k := 768) (by decide) (by omega)), if_pos (own_gt (c := 879) (k := 879) (by decide) (by omega)), f1_59, if_neg (own_ne (c := 894) (k := 894) (by decide) (by omega)), if_pos (own_lt (c := 8192) (k := 8192) (by decide) (by omega)), f1_80, if_pos (own_lt (c := 8206) (k := 8206) (by decide) (by omega)), f1_94, if_pos (own_lt (c := 8592) (k := 8592) (by decide) (by omega)), f1_108, if_pos (own_lt (c := 12272) (k := 12272) (by decide) (by omega)), f1_122, if_pos (own_lt (c := 55296) (k := 55296) (by decide) (by omega)), f1_134, if_pos (own_lt (c := 64976) (k := 64976) (by decide) (by omega)), f1_146, if_pos (own_lt (c := 65534) (k := 65534) (by decide) (by omega)), f1_158, if_neg (own_le (c := 983039) (k := 983039) (by decide) (by omega))]
  have e2 : f2_0 x = 1 := by rw [f2_0, if_neg (own_ge (c := 65) (k := 65) (by decide) (by omega)), if_pos (own_gt (c := 90) (k := 90) (by decide) (by omega)), f2_12, if_neg (own_ge (c := 97) (k := 97) (by decide) (by omega)), if_pos (own_gt (c := 122) (k := 122) (by decide) (by omega)), f2_24, if_neg (own_ge (c := 192) (k := 192) (by decide) (by omega)), if_pos (own_gt (c := 214) (k := 214) (by decide) (by omega)), f2_38, if_neg (own_ge (c := 216) (k := 216) (by decide) (by omega)), if_pos (own_gt (c := 246) (k := 246) (by decide) (by omega)), f2_52, if_neg (own_ge (c := 248) (k := 248) (by decide) (by omega)), if_pos (own_gt (c := 767) (k := 767) (by decide) (by omega)), f2_66, if_neg (own_ge (c := 880) (k := 880) (by decide) (by omega)), if_pos (own_gt (c := 893) (k := 893) (by decide) (by omega)), f2_80, if_neg (own_ge (c := 895) (k := 895) (by decide) (by omega)), if_neg (own_le (c := 8191) (k := 8191) (by decide) (by omega))]
  rw [e1, e2]; rfl
theorem own_iv_14 (x : Int32) (h1 : 8192 ≤ x.toInt) (h2 : x.toInt ≤ 8203) : f2_0 x = if f1_0 x = 0 then (1 : Int32) else 0 := by
  have e1 : f1_0 x = 1 := by rw [f1_0, if_neg (own_ge (c := 65) (k := 65) (by decide) (by omega)), if_neg (own_ge (c := 91) (k := 91) (by decide) (by omega)), if_pos (own_gt (c := 96) (k := 96) (by decide) (by omega)), f1_18, if_neg (own_ge (c := 123) (k := 123) (by decide) (by omega)), if_pos (own_gt (c := 191) (k := 191) (by decide) (by omega)), f1_31, if_neg (own_ne (c := 215) (k := 215) (by decide) (by omega)), if_neg (own_ne (c := 247) (k := 247) (by decide) (by omega)), if_neg (own_ge (c := 768) (k := 768) (by decide) (by omega)), if_pos (own_gt (c := 879) (k := 879) (by decide) (by omega)), f1_59, if_neg (own_ne (c := 894) (k := 894) (by decide) (by omega)), if_neg (own_ge (c := 8192) (k := 8192) (by decide) (by omega)), if_neg (own_le (c := 8203) (k := 8203) (by decide) (by omega))]
  have e2 : f2_0 x = 0 := by rw [f2_0, if_neg (own_ge (c := 65) (k := 65) (by decide) (by omega)), if_pos (own_gt (c := 90) (k := 90) (by decide) (by omega)), f2_12, if_neg (own_ge (c := 97) (k := 97) (by decide) (by omega)), if_pos (own_gt (c := 122) (k := 122) (by decide) (by omega)), f2_24, if_neg (own_ge (c := 192) (k := 192) (by decide) (by omega)), if_pos (own_gt (c := 214) (k := 214) (by decide) (by omega)), f2_38, if_neg (own_ge (c := 216) (k := 216) (by decide) (by omega)), if_pos (own_gt (c := 246) (k := 246) (by decide) (by omega)), f2_52, if_neg (own_ge (c := 248) (k := 248) (by decide) (by omega)), if_pos (own_gt (c := 767) (k := 767) (by decide) (by omega)), f2_66, if_neg (own_ge (c := 880) (k := 880) (by decide) (by omega)), if_pos (own_gt (c := 893) (k := 893) (by decide) (by omega)), f2_80, if_neg (own_ge (c := 895) (k := 895) (by decide) (by omega)), if_pos (own_gt (c := 8191) (k := 8191) (by decide) (by omega)), f2_94, if_pos (own_lt (c := 8204) (k := 8204) (by decide) (by omega)), f2_108, if_pos (own_lt (c := 8304) (k := 8304) (by decide) (by omega)), f2_122, if_pos (own_lt (c := 11264) (k := 11264) (by decide) (by omega)), f2_136, if_pos (own_lt (c := 12289) (k := 12289) (by decide) (by omega)), f2_149, if_pos (own_lt (c := 63744) (k := 63744) (by decide) (by omega)), f2_161, if_pos (own_lt (c := 65008) (k := 65008) (by decide) (by omega)), f2_173, if_pos (own_lt (c := 65536) (k := 65536) (by decide) (by omega))]
  rw [e1, e2]; rfl
theorem own_iv_15 (x : Int32) (h1 : 8204 ≤ x.toInt) (h2 : x.toInt ≤ 8205) : f2_0 x = if f1_0 x = 0 then (1 : Int32) else 0 := by
  have e1 : f1_0 x = 0 := by rw [f1_0, if_neg (own_ge (c := 65) (k := 65) (by decide) (by omega)), if_neg (own_ge (c := 91) (k := 91) (by decide) (by omega)), if_pos (own_gt (c := 96) (k := 96) (by decide) (by omega)), f1_18, if_neg (own_ge (c := 123) (k := 123) (by decide) (by omega)), if_pos (own_gt (c := 191) (k := 191) (by decide) (by omega)), f1_31, if_neg (own_ne (c := 215) (k := 215) (by decide) (by omega)), if_neg (own_ne (c := 247) (k := 247) (by decide) (by omega)), if_neg (own_ge (c := 768) (k := 768) (by decide) (by omega)), if_pos (own_gt (c := 879) (k := 879) (by decide) (by omega)), f1_59, if_neg (own_ne (c := 894) (k := 894) (by decide) (by omega)), if_neg (own_ge (c := 8192) (k := 8192) (by decide) (by omega)), if_pos (own_gt (c := 8203) (k := 8203) (by decide) (by omega)), f1_80, if_pos (own_lt (c := 8206) (k := 8206) (by decide) (by omega)), f1_94, if_pos (own_lt (c := 8592) (k := 8592) (by decide) (by omega)), f1_108, if_pos (own_lt (c := 12272) (k := 12272) (by decide) (by omega)), f1_122, if_pos (own_lt (c := 55296) (k := 55296) (by decide) (by omega)), f1_134, if_pos (own_lt (c := 64976) (k := 64976) (by decide) (by omega)), f1_146, if_pos (own_lt (c := 65534) (k := 65534) (by decide) (by omega)), f1_158, if_neg (own_le (c := 983039) (k := 983039) (by decide) (by omega))]
  have e2 : f2_0 x = 1 := by rw [f2_0, if_neg (own_ge (c := 65) (k := 65) (by decide) (by omega)), if_pos (own_gt (c := 90) (k := 90) (by decide) (by omega)), f2_12, if_neg (own_ge (c := 97) (k := 97) (by decide) (by omega)), if_pos (own_gt (c := 122) (k := 122) (by decide) (by omega)), f2_24, if_neg (own_ge (c := 192) (k := 192) (by decide) (by omega)), if_pos (own_gt (c := 214) (k := 214) (by decide) (by omega)), f2_38, if_neg (own_ge (c := 216) (k := 216) (by decide) (by omega)), if_pos (own_gt (c := 246) (k := 246) (by decide) (by omega)), f2_52, if_neg (own_ge (c := 248) (k := 248) (by decide) (by omega)), if_pos (own_gt (c := 767) (k := 767) (by decide) (by omega)), f2_66, if_neg (own_ge (c := 880) (k := 880) (by decide) (by omega)), if_pos (own_gt (c := 893) (k := 893) (by decide) (by omega)), f2_80, if_neg (own_ge (c := 895) (k := 895) (by decide) (by omega)), if_pos (own_gt (c := 8191) (k := 8191) (by decide) (by omega)), f2_94, if_neg (own_ge (c := 8204) (k := 8204) (by decide) (by omega)), if_neg (own_le (c := 8205) (k := 8205) (by decide) (by omega))]
  rw [e1, e2]; rfl
theorem own_iv_16 (x : Int32) (h1 : 8206 ≤ x.toInt) (h2 : x.toInt ≤ 8303) : f2_0 x = if f1_0 x = 0 then (1 : Int32) else 0 := by
  have e1 : f1_0 x = 1 := by rw [f1_0, if_neg (own_ge (c := 65) (k := 65) (by decide) (by omega)), if_neg (own_ge (c := 91) (k := 91) (by decide) (by omega)), if_pos (own_gt (c := 96) (k := 96) (by decide) (by omega)), f1_18, if_neg (own_ge (c := 123) (k := 123) (by decide) (by omega)), if_pos (own_gt (c := 191) (k := 191) (by decide) (by omega)), f1_31, if_neg (own_ne (c := 215) (k := 215) (by decide) (by omega)), if_neg (own_ne (c := 247) (k := 247) (by decide) (by omega)), if_neg (own_ge (c := 768) (k := 768) (by decide) (by omega)), if_pos (own_gt (c := 879) (k := 879) (by decide) (by omega)), f1_59, if_neg (own_ne (c := 894) (k := 894) (by decide) (by omega)), if_neg (own_ge (c := 8192) (k := 8192) (by decide) (by omega)), if_pos (own_gt (c := 8203) (k := 8203) (by decide) (by omega)), f1_80, if_neg (own_ge (c := 8206) (k := 8206) (by decide) (by omega)), if_neg (own_le (c := 8303) (k := 8303) (by decide) (by omega))]
  have e2 : f2_0 x = 0 := by rw [f2_0, if_neg (own_ge (c := 65) (k := 65) (by decide) (by omega)), if_pos (own_gt (c := 90) (k := 90) (by decide) (by omega)), f2_12, if_neg (own_ge (c := 97) (k := 97) (by decide) (by omega)), if_pos (own_gt (c := 122) (k := 122) (by decide) (by omega)), f2_24, if_neg (own_ge (c := 192) (k := 192) (by decide) (by omega)), if_pos (own_gt (c := 214) (k := 214) (by decide) (by omega)), f2_38, if_neg (own_ge (c := 216) (k := 216) (by decide) (by omega)), if_pos (own_gt (c := 246) (k := 246) (by decide) (by omega)), f2_52, if_neg (own_ge (c := 248) (k := 248) (by decide) (by omega)), if_pos (own_gt (c := 767) (k := 767) (by decide) (by omega)), f2_66, if_neg (own_ge (c := 880) (k := 880) (by decide) (by omega)), if_pos (own_gt (c := 893) (k := 893) (by decide) (by omega)), f2_80, if_neg (own_ge (c := 895) (k := 895) (by decide) (by omega)), if_pos (own_gt (c := 8191) (k := 8191) (by decide) (by omega)), f2_94, if_neg (own_ge (c := 8204) (k := 8204) (by decide) (by omega)), if_pos (own_gt (c := 8205) (k := 8205) (by decide) (by omega)), f2_108, if_pos (own_lt (c := 8304) (k := 8304) (by decide) (by omega)), f2_122, if_pos (own_lt (c := 11264) (k := 11264) (by decide) (by omega)), f2_136, if_pos (own_lt (c := 12289) (k := 12289) (by decide) (by omega)), f2_149, if_pos (own_lt (c := 63744) (k := 63744) (by decide) (by omega)), f2_161, if_pos (own_lt (c := 65008) (k := 65008) (by decide) (by omega)), f2_173, if_pos (own_lt (c := 65536) (k := 65536) (by decide) (by omega))]
  rw [e1, e2]; rfl
theorem own_iv_17 (x : Int32) (h1 : 8304 ≤ x.toInt) (h2 : x.toInt ≤ 8591) : f2_0 x = if f1_0 x = 0 then (1 : Int32) else 0 := by
  have e1 : f1_0 x = 0 := by rw [f1_0, if_neg (own_ge (c := 65) (k := 65) (by decide) (by omega)), if_neg (own_ge (c := 91) (k := 91) (by decide) (by omega)), if_pos (own_gt (c := 96) (k := 96) (by decide) (by omega)), f1_18, if_neg (own_ge (c := 123) (k := 123) (by decide) (by omega)), if_pos (own_gt (c := 191) (k := 191) (by decide) (by omega)), f1_31, if_neg (own_ne (c := 215) (k := 215) (by decide) (by omega)), if_neg (own_ne (c := 247) (k := 247) (by decide) (by omega)), if_neg (own_ge (c := 768) (k := 768) (by decide) (by omega)), if_pos (own_gt (c := 879) (k := 879) (by decide) (by omega)), f1_59, if_neg (own_ne (c := 894) (k := 894) (by decide) (by omega)), if_neg (own_ge (c := 8192) (k := 8192) (by decide) (by omega)), if_pos (own_gt (c := 8203) (k := 8203) (by decide) (by omega)), f1_80, if_neg (own_ge (c := 8206) (k := 8206) (by decide) (by omega)), if_pos (own_gt (c := 8303) (k := 8303) (by decide) (by omega)), f1_94, if_pos (own_lt (c := 8592) (k := 8592) (by decide) (by omega)), f1_108, if_pos (own_lt (c := 12272) (k := 12272) (by decide) (by omega)), f1_122, if_pos (own_lt (c := 55296) (k := 55296) (by decide) (by omega)), f1_134, if_pos (own_lt (c := 64976) (k := 64976) (by decide) (by omega)), f1_146, if_pos (own_lt (c := 65534) (k := 65534) (by decide) (by omega)), f1_158, if_neg (own_le (c := 983039) (k := 983039) (by decide) (by omega))]
  have e2 : f2_0 x = 1 := by rw [f2_0, if_neg (own_ge (c := 65) (k := 65) (by decide) (by omega)), if_pos (own_gt (c := 90) (k := 90) (by decide) (by omega)), f2_12, if_neg (own_ge (c := 97) (k := 97) (by decide) (by omega)), if_pos (own_gt (c := 122) (k := 122) (by decide) (by omega)), f2_24, if_neg (own_ge (c := 192) (k := 192) (by decide) (by omega)), if_pos (own_gt (c := 214) (k := 214) (by decide) (by omega)), f2_38, if_neg (own_ge (c := 216) (k := 216) (by decide) (by omega)), if_pos (own_gt (c := 246) (k := 246) (by decide) (by omega)), f2_52, if_neg (own_ge (c := 248) (k := 248) (by decide) (by omega)), if_pos (own_gt (c := 767) (k := 767) (by decide) (by omega)), f2_66, if_neg (own_ge (c := 880) (k := 880) (by decide) (by omega)), if_pos (own_gt (c := 893) (k := 893) (by decide) (by omega)), f2_80, if_neg (own_ge (c := 895) (k := 895) (by decide) (by omega)), if_pos (own_gt (c := 8191) (k := 8191) (by decide) (by omega)), f2_94, if_neg (own_ge (c := 8204) (k := 8204) (by decide) (by omega)), if_pos (own_gt (c := 8205) (k := 8205) (by decide) (by omega)), f2_108, if_neg (own_ge (c := 8304) (k := 8304) (by decide) (by omega)), if_neg (own_le (c := 8591) (k := 8591) (by decide) (by omega))]
  rw [e1, e2]; rfl
theorem own_iv_18 (x : Int32) (h1 : 8592 ≤ x.toInt) (h2 : x.toInt ≤ 11263) : f2_0 x = if f1_0 x = 0 then (1 : Int32) else 0 := by
  have e1 : f1_0 x = 1 := by rw [f1_0, if_neg (own_ge (c := 65) (k := 65) (by decide) (by omega)), if_neg (own_ge (c := 91) (k := 91) (by decide) (by omega)), if_pos (own_gt (c := 96) (k := 96) (by decide) (by omega)), f1_18, if_neg (own_ge (c := 123) (k := 123) (by decide) (by omega)), if_pos (own_gt (c := 191) (k := 191) (by decide) (by omega)), f1_31, if_neg (own_ne (c := 215) (k := 215) (by decide) (by omega)), if_neg (own_ne (c := 247) (k := 247) (by decide) (by omega)), if_neg (own_ge (c := 768) (k := 768) (by decide) (by omega)), if_pos (own_gt (c := 879) (k := 879) (by decide) (by omega)), f1_59, if_neg (own_ne (c := 894) (k := 894) (by decide) (by omega)), if_neg (own_ge (c := 8192) (k := 8192) (by decide) (by omega)), if_pos (own_gt (c := 8203) (k := 8203) (by decide) (by omega)), f1_80, if_neg (own_ge (c := 8206) (k := 8206) (by decide) (by omega)), if_pos (own_gt (c := 8303) (k := 8303) (by decide) (by omega)), f1_94, if_neg (own_ge (c := 8592) (k := 8592) (by decide) (by omega)), if_neg (own_le (c := 11263) (k := 11263) (by decide) (by omega))]
  have e2 : f2_0 x = 0 := by rw [f2_0, if_neg (own_ge (c := 65) (k := 65) (by decide) (by omega)), if_pos (own_gt (c := 90) (k := 90) (by decide) (by omega)), f2_12, if_neg (own_ge (c := 97) (k := 97) (by decide) (by omega)), if_pos (own_gt (c := 122) (k := 122) (by decide) (by omega)), f2_24, if_neg (own_ge (c := 192) (k := 192) (by decide) (by omega)), if_pos (own_gt (c := 214) (k := 214) (by decide) (by omega)), f2_38, if_neg (own_ge (c := 216) (k := 216) (by decide) (by omega)), if_pos (own_gt (c := 246) (k := 246) (by decide) (by omega)), f2_52, if_neg (own_ge (c := 248) (k := 248) (by decide) (by omega)), if_pos (own_gt (c := 767) (k := 767) (by decide) (by omega)), f2_66, if_neg (own_ge (c := 880) (k := 880) (by decide) (by omega)), if_pos (own_gt (c := 893) (k := 893) (by decide) (by omega)), f2_80, if_neg (own_ge (c := 895) (k := 895) (by decide) (by omega)), if_pos (own_gt (c := 8191) (k := 8191) (by decide) (by omega)), f2_94, if_neg (own_ge (c := 8204) (k := 8204) (by decide) (by omega)), if_pos (own_gt (c := 8205) (k := 8205) (by decide) (by omega)), f2_108, if_neg (own_ge (c := 8304) (k := 8304) (by decide) (by omega)), if_pos (own_gt (c := 8591) (k := 8591) (by decide) (by omega)), f2_122, if_pos (own_lt (c := 11264) (k := 11264) (by decide) (by omega)), f2_136, if_pos (own_lt (c := 12289) (k := 12289) (by decide) (by omega)), f2_149, if_pos (own_lt (c := 63744) (k := 63744) (by decide) (by omega)), f2_161, if_pos (own_lt (c := 65008) (k := 65008) (by decide) (by omega)), f2_173, if_pos (own_lt (c := 65536) (k := 65536) (by decide) (by omega))]
  rw [e1, e2]; rfl
theorem own_iv_19 (x : Int32) (h1 : 11264 ≤ x.toInt) (h2 : x.toInt ≤ 12271) : f2_0 x = if f1_0 x = 0 then (1 : Int32) else 0 := by
  have e1 : f1_0 x = 0 := by rw [f1_0, if_neg (own_ge (c := 65) (k := 65) (by decide) (by omega)), if_neg (own_ge (c := 91) (k := 91) (by decide) (by omega)), if_pos (own_gt (c := 96) (k := 96) (by decide) (by omega)), f1_18, if_neg (own_ge (c := 123) (k := 123) (by decide) (by omega)), if_pos (own_gt (c := 191) (k := 191) (by decide) (by omega)), f1_31, if_neg (own_ne (c := 215) (k := 215) (by decide) (by omega)), if_neg (own_ne (c := 247) (k := 247) (by decide) (by omega)), if_neg (own_ge (c := 768) (k := 768) (by decide) (by omega)), if_pos (own_gt (c := 879) (k := 879) (by decide) (by omega)), f1_59, if_neg (own_ne (c := 894) (k := 894) (by decide) (by omega)), if_neg (own_ge (c := 8192) (k := 8192) (by decide) (by omega)), if_pos (own_gt (c := 8203) (k := 8203) (by decide) (by omega)), f1_80, if_neg (own_ge (c := 8206) (k := 8206) (by decide) (by omega)), if_pos (own_gt (c := 8303) (k := 8303) (by decide) (by omega)), f1_94, if_neg (own_ge (c := 8592) (k := 8592) (by decide) (by omega)), if_pos (own_gt (c := 11263) (k := 11263) (by decide) (by omega)), f1_108, if_pos (own_lt (c := 12272) (k := 12272) (by decide) (by omega)), f1_122, if_pos (own_lt (c := 55296) (k := 55296) (by decide) (by omega)), f1_134, if_pos (own_lt (c := 64976) (k := 64976) (by decide) (by omega)), f1_146, if_pos (own_lt (c := 65534) (k := 65534) (by decide) (by omega)), f1_158, if_neg (own_le (c := 983039) (k := 983039) (by decide) (by omega))]
  have e2 : f2_0 x = 1 := by rw [f2_0, if_neg (own_ge (c := 65) (k := 65) (by decide) (by omega)), if_pos (own_gt (c := 90) (k := 90) (by decide) (by omega)), f2_12, if_neg (own_ge (c := 97) (k := 97) (by decide) (by omega)), if_pos (own_gt (c := 122) (k := 122) (by decide) (by omega)), f2_24, if_neg (own_ge (c := 192) (k := 192) (by decide) (by omega)), if_pos (own_gt (c := 214) (k := 214) (by decide) (by omega)), f2_38, if_neg (own_ge (c := 216) (k := 216) (by decide) (by omega)), if_pos (own_gt (c := 246) (k := 246) (by decide) (by omega)), f2_52, if_neg (own_ge (c := 248) (k := 248) (by decide) (by omega)), if_pos (own_gt (c := 767) (k := 767) (by decide) (by omega)), f2_66, if_neg (own_ge (c := 880) (k := 880) (by decide) (by omega)), if_pos (own_gt (c := 893) (k := 893) (by decide) (by omega)), f2_80, if_neg (own_ge (c := 895) (k := 895) (by decide) (by omega)), if_pos (own_gt (c := 8191) (k := 8191) (by decide) (by omega)), f2_94, if_neg (own_ge (c := 8204) (k := 8204) (by decide) (by omega)), if_pos (own_gt (c := 8205) (k := 8205) (by decide) (by omega)), f2_108, if_neg (own_ge (c := 8304) (k := 8304) (by decide) (by omega)), if_pos (own_gt (c := 8591) (k := 8591) (by decide) (by omega)), f2_122, if_neg (own_ge (c := 11264) (k := 11264) (by decide) (by omega)), if_neg (own_le (c := 12271) (k := 12271) (by decide) (by omega))]
  rw [e1, e2]; rfl
theorem own_iv_20 (x : Int32) (h1 : 12272 ≤ x.toInt) (h2 : x.toInt ≤ 12288) : f2_0 x = if f1_0 x = 0 then (1 : Int32) else 0 := by
  have e1 : f1_0 x = 1 := by rw [f1_0, if_neg (own_ge (c := 65) (k := 65) (by decide) (by omega)), if_neg (own_ge (c := 91) (k := 91) (by decide) (by omega)), if_pos (own_gt (c := 96) (k := 96) (by decide) (by omega)), f1_18, if_neg (own_ge (c := 123) (k := 123) (by decide) (by omega)), if_pos (own_gt (c := 191) (k := 191) (by decide) (by omega)), f1_31, if_neg (own_ne (c := 215) (k := 215) (by decide) (by omega)), if_neg (own_ne (c := 247) (k := 247) (by decide) (by omega)), if_neg (own_ge (c := 768) (k := 768) (by decide) (by omega)), if_pos (own_gt (c := 879) (k := 879) (by decide) (by omega)), f1_59, if_neg (own_ne (c := 894) (k := 894) (by decide) (by omega)), if_neg (own_ge (c := 8192) (k := 8192) (by decide) (by omega)), if_pos (own_gt (c := 8203) (k := 8203) (by decide) (by omega)), f1_80, if_neg (own_ge (c := 8206) (k := 8206) (by decide) (by omega)), if_pos (own_gt (c := 8303) (k := 8303) (by decide) (by omega)), f1_94, if_neg (own_ge (c := 8592) (k := 8592) (by decide) (by omega)), if_pos (own_gt (c := 11263) (k := 11263) (by decide) (by omega)), f1_108, if_neg (own_ge (c := 12272) (k := 12272) (by decide) (by omega)), if_neg (own_le (c := 12288) (k := 12288) (by decide) (by omega))]
  have e2 : f2_0 x = 0 := by rw [f2_0, if_neg (own_ge (c := 65) (k := 65) (by decide) (by omega)), if_pos (own_gt (c := 90) (k := 90) (by decide) (by omega)), f2_12, if_neg (own_ge (c := 97) (k := 97) (by decide) (by omega)), if_pos (own_gt (c := 122) (k := 122) (by decide) (by omega)), f2_24, if_neg (own_ge (c := 192) (k := 192) (by decide) (by omega)), if_pos (own_gt (c := 214) (k := 214) (by decide) (by omega)), f2_38, if_neg (own_ge (c := 216) (k := 216) (by decide) (by omega)), if_pos (own_gt (c := 246) (k := 246) (by decide) (by omega)), f2_52, if_neg (own_ge (c := 248) (k := 248) (by decide) (by omega)), if_pos (own_gt (c := 767) (k := 767) (by decide) (by omega)), f2_66, if_neg (own_ge (c := 880) (k := 880) (by decide) (by omega)), if_pos (own_gt (c := 893) (k := 893) (by decide) (by omega)), f2_80, if_neg (own_ge (c := 895) (k := 895) (by decide) (by omega)), if_pos (own_gt (c := 8191) (k := 8191) (by decide) (by omega)), f2_94, if_neg (own_ge (c := 8204) (k := 8204) (by decide) (by omega)), if_pos (own_gt (c := 8205) (k := 8205) (by decide) (by omega)), f2_108, if_neg (own_ge (c := 8304) (k := 8304) (by decide) (by omega)), if_pos (own_gt (c := 8591) (k := 8591) (by decide) (by omega)), f2_122, if_neg (own_ge (c := 11264) (k := 11264) (by decide) (by omega)), if_pos (own_gt (c := 12271) (k := 12271) (by decide) (by omega)), f2_136, if_pos (own_lt (c := 12289) (k := 12289) (by decide) (by omega)), f2_149, if_pos (own_lt (c := 63744) (k := 63744) (by decide) (by omega)), f2_161, if_pos (own_lt (c := 65008) (k := 65008) (by decide) (by omega)), f2_173, if_pos (own_lt (c := 65536) (k := 65536) (by decide) (by omega))]
  rw [e1, e2]; rfl
theorem own_iv_21 (x : Int32) (h1 : 12289 ≤ x.toInt) (h2 : x.toInt ≤ 55295) : f2_0 x = if f1_0 x = 0 then (1 : Int32) else 0 := by
  have e1 : f1_0 x = 0 := by rw [f1_0, if_neg (own_ge (c := 65) (k := 65) (by decide) (by omega)), if_neg (own_ge (c := 91) (k := 91) (by decide) (by omega)), if_pos (own_gt (c := 96) (k := 96) (by decide) (by omega)), f1_18, if_neg (own_ge (c := 123) (k := 123) (by decide) (by omega)), if_pos (own_gt (c := 191) (k := 191) (by decide) (by omega)), f1_31, if_neg (own_ne (c := 215) (k := 215) (by decide) (by omega)), if_neg (own_ne (c := 247) (k := 247) (by decide) (by omega)), if_neg (own_ge (c := 768) (k := 768) (by decide) (by omega)), if_pos (own_gt (c := 879) (k := 879) (by decide) (by omega)), f1_59, if_neg (own_ne (c := 894) (k := 894) (by decide) (by omega)), if_neg (own_ge (c := 8192) (k := 8192) (by decide) (by omega)), if_pos (own_gt (c := 8203) (k := 8203) (by decide) (by omega)), f1_80, if_neg (own_ge (c := 8206) (k := 8206) (by decide) (by omega)), if_pos (own_gt (c := 8303) (k := 8303) (by decide) (by omega)), f1_94, if_neg (own_ge (c := 8592) (k := 8592) (by decide) (by omega)), if_pos (own_gt (c := 11263) (k := 11263) (by decide) (by omega)), f1_108, if_neg (own_ge (c := 12272) (k := 12272) (by decide) (by omega)), if_pos (own_gt (c := 12288) (k := 12288) (by decide) (by omega)), f1_122, if_pos (own_lt (c := 55296) (k := 55296) (by decide) (by omega)), f1_134, if_pos (own_lt (c := 64976) (k := 64976) (by decide) (by omega)), f1_146, if_pos (own_lt (c := 65534) (k := 65534) (by decide) (by omega)), f1_158, if_neg (own_le (c := 983039) (k := 983039) (by decide) (by omega))]
  have e2 : f2_0 x = 1 := by rw [f2_0, if_neg (own_ge (c := 65) (k := 65) (by decide) (by omega)), if_pos (own_gt (c := 90) (k := 90) (by decide) (by omega)), f2_12, if_neg (own_ge (c := 97) (k := 97) (by decide) (by omega)), if_pos (own_gt (c := 122) (k := 122) (by decide) (by omega)), f2_24, if_neg (own_ge (c := 192) (k := 192) (by decide) (by omega)), if_pos (own_gt (c := 214) (k := 214) (by decide) (by omega)), f2_38, if_neg (own_ge (c := 216) (k := 216) (by decide) (by omega)), if_pos (own_gt (c := 246) (k := 246) (by decide) (by omega)), f2_52, if_neg (own_ge (c := 248) (k := 248) (by decide) (by omega)), if_pos (own_gt (c := 767) (k := 767) (by decide) (by omega)), f2_66, if_neg (own_ge (c := 880) (k := 880) (by decide) (by omega)), if_pos (own_gt (c := 893) (k := 893) (by decide) (by omega)), f2_80, if_neg (own_ge (c := 895) (k := 895) (by decide) (by omega)), if_pos (own_gt (c := 8191) (k := 8191) (by decide) (by omega)), f2_94, if_neg (own_ge (c := 8204) (k := 8204) (by decide) (by omega)), if_pos (own_gt (c := 8205) (k := 8205) (by decide) (by omega)), f2_108, if_neg (own_ge (c := 8304) (k := 8304) (by decide) (by omega)), if_pos (own_gt (c := 8591) (k := 8591) (by decide) (by omega)), f2_122, if_neg (own_ge (c := 11264) (k := 11264) (by decide) (by omega)), if_pos (own_gt (c := 12271) (k := 12271) (by decide) (by omega)), f2_136, if_neg (own_ge (c := 12289) (k := 12289) (by decide) (by omega)), if_neg (own_le (c := 55295) (k := 55295) (by decide) (by omega))]
  rw [e1, e2]; rfl
theorem own_iv_22 (x : Int32) (h1 : 55296 ≤ x.toInt) (h2 : x.toInt ≤ 63743) : f2_0 x = if f1_0 x = 0 then (1 : Int32) else 0 := by
  have e1 : f1_0 x = 1 := by rw [f1_0, if_neg (own_ge (c := 65) (k := 65) (by decide) (by omega)), if_neg (own_ge (c := 91) (k := 91) (by decide) (by omega)), if_pos (own_gt (c := 96) (k := 96) (by decide) (by omega)), f1_18, if_neg (own_ge (c := 123) (k := 123) (by decide) (by omega)), if_pos (own_gt (c := 191) (k := 191) (by decide) (by omega)), f1_31, if_neg (own_ne (c := 215) (k := 215) (by decide) (by omega)), if_neg (own_ne (c := 247) (k := 247) (by decide) (by omega)), if_neg (own_ge (c := 768) (k := 768) (by decide) (by omega)), if_pos (own_gt (c := 879) (k := 879) (by decide) (by omega)), f1_59, if_neg (own_ne (c := 894) (k := 894) (by decide) (by omega)), if_neg (own_ge (c := 8192) (k := 8192) (by decide) (by omega)), if_pos (own_gt (c := 8203) (k := 8203) (by decide) (by omega)), f1_80, if_neg (own_ge (c := 8206) (k := 8206) (by decide) (by omega)), if_pos (own_gt (c := 8303) (k := 8303) (by decide) (by omega)), f1_94, if_neg (own_ge (c := 8592) (k := 8592) (by decide) (by omega)), if_pos (own_gt (c := 11263) (k := 11263) (by decide) (by omega)), f1_108, if_neg (own_ge (c := 12272) (k := 12272) (by decide) (by omega)), if_pos (own_gt (c := 12288) (k := 12288) (by decide) (by omega)), f1_122, if_neg (own_ge (c := 55296) (k := 55296) (by decide) (by omega)), if_neg (own_le (c := 63743) (k := 63743) (by decide) (by omega))]
  have e2 : f2_0 x = 0 := by rw [f2_0, if_neg (own_ge (c := 65) (k := 65) (by decide) (by omega)), if_pos (own_gt (c := 90) (k := 90) (by decide) (by omega)), f2_12, if_neg (own_ge (c := 97) (k := 97) (by decide) (by omega)), if_pos (own_gt (c := 122) (k := 122) (by decide) (by omega)), f2_24, if_neg (own_ge (c := 192) (k := 192) (by decide) (by omega)), if_pos (own_gt (c := 214) (k := 214) (by decide) (by omega)), f2_38, if_neg (own_ge (c := 216) (k := 216) (by decide) (by omega)), if_pos (own_gt (c := 246) (k := 246) (by decide) (by omega)), f2_52, if_neg (own_ge (c := 248) (k := 248) (by decide) (by omega)), if_pos (own_gt (c := 767) (k := 767) (by decide) (by omega)), f2_66, if_neg (own_ge (c := 880) (k := 880) (by decide) (by omega)), if_pos (own_gt (c := 893) (k := 893) (by decide) (by omega)), f2_80, if_neg (own_ge (c := 895) (k := 895) (by decide) (by omega)), if_pos (own_gt (c := 8191) (k := 8191) (by decide) (by omega)), f2_94, if_neg (own_ge (c := 8204) (k := 8204) (by decide) (by omega)), if_pos (own_gt (c := 8205) (k := 8205) (by decide) (by omega)), f2_108, if_neg (own_ge (c := 8304) (k := 8304) (by decide) (by omega)), if_pos (own_gt (c := 8591) (k := 8591) (by decide) (by omega)), f2_122, if_neg (own_ge (c := 11264) (k := 11264) (by decide) (by omega)), if_pos (own_gt (c := 12271) (k := 12271) (by decide) (by omega)), f2_136, if_neg (own_ge (c := 12289) (k := 12289) (by decide) (by omega)), if_pos (own_gt (c := 55295) (k := 55295) (by decide) (by omega)), f2_149, if_pos (own_lt (c := 63744) (k := 63744) (by decide) (by omega)), f2_161, if_pos (own_lt (c := 65008) (k := 65008) (by decide) (by omega)), f2_173, if_pos (own_lt (c := 65536) (k := 65536) (by decide) (by omega))]
  rw [e1, e2]; rfl
theorem own_iv_23 (x : Int32) (h1 : 63744 ≤ x.toInt) (h2 : x.toInt ≤ 64975) : f2_0 x = if f1_0 x = 0 then (1 : Int32) else 0 := by
  have e1 : f1_0 x = 0 := by rw [f1_0, if_neg (own_ge (c := 65) (k := 65) (by decide) (by omega)), if_neg (own_ge (c := 91) (k := 91) (by decide) (by omega)), if_pos (own_gt (c := 96) (k := 96) (by decide) (by omega)), f1_18, if_neg (own_ge (c := 123) (k := 123) (by decide) (by omega)), if_pos (own_gt (c := 191) (k := 191) (by decide) (by omega)), f1_31, if_neg (own_ne (c := 215) (k := 215) (by decide) (by omega)), if_neg (own_ne (c := 247) (k := 247) (by decide) (by omega)), if_neg (own_ge (c := 768) (k := 768) (by decide) (by omega)), if_pos (own_gt (c := 879) (k := 879) (by decide) (by omega)), f1_59, if_neg (own_ne (c := 894) (k := 894) (by decide) (by omega)), if_neg (own_ge (c := 8192) (k := 8192) (by decide) (by omega)), if_pos (own_gt (c := 8203) (k := 8203) (by decide) (by omega)), f1_80, if_neg (own_ge (c := 8206) (k := 8206) (by decide) (by omega)), if_pos (own_gt (c := 8303) (k := 8303) (by decide) (by omega)), f1_94, if_neg (own_ge (c := 8592) (k := 8592) (by decide) (by omega)), if_pos (own_gt (c := 11263) (k := 11263) (by decide) (by omega)), f1_108, if_neg (own_ge (c := 12272) (k := 12272) (by decide) (by omega)), if_pos (own_gt (c := 12288) (k := 12288) (by decide) (by omega)), f1_122, if_neg (own_ge (c := 55296) (k := 55296) (by decide) (by omega)), if_pos (own_gt (c := 63743) (k := 63743) (by decide) (by omega)), f1_134, if_pos (own_lt (c := 64976) (k := 64976) (by decide) (by omega)), f1_146, if_pos (own_lt (c := 65534) (k := 65534) (by decide) (by omega)), f1_158, if_neg (own_le (c := 983039) (k := 983039) (by decide) (by omega))]
  have e2 : f2_0 x = 1 := by rw [f2_0, if_neg (own_ge (c := 65) (k := 65) (by decide) (by omega)), if_pos (own_gt (c := 90) (k := 90) (by decide) (by omega)), f2_12, if_neg (own_ge (c := 97) (k := 97) (by decide) (by omega)), if_pos (own_gt (c := 122) (k := 122) (by decide) (by omega)), f2_24, if_neg (own_ge (c := 192) (k := 192) (by decide) (by omega)), if_pos (own_gt (c := 214) (k := 214) (by decide) (by omega)), f2_38, if_neg (own_ge (c := 216) (k := 216) (by decide) (by omega)), if_pos (own_gt (c := 246) (k := 246) (by decide) (by omega)), f2_52, if_neg (own_ge (c := 248) (k := 248) (by decide) (by omega)), if_pos (own_gt (c := 767) (k := 767) (by decide) (by omega)), f2_66, if_neg (own_ge (c := 880) (k := 880) (by decide) (by omega)), if_pos (own_gt (c := 893) (k := 893) (by decide) (by omega)), f2_80, if_neg (own_ge (c := 895) (k := 895) (by decide) (by omega)), if_pos (own_gt (c := 8191) (k := 8191) (by decide) (by omega)), f2_94, if_neg (own_ge (c := 8204) (k := 8204) (by decide) (by omega)), if_pos (own_gt (c := 8205) (k := 8205) (by decide) (by omega)), f2_108, if_neg (own_ge (c := 8304) (k := 8304) (by decide) (by omega)), if_pos (own_gt (c := 8591) (k := 8591) (by decide) (by omega)), f2_122, if_neg (own_ge (c := 11264) (k := 11264) (by decide) (by omega)), if_pos (own_gt (c := 12271) (k := 12271) (by decide) (by omega)), f2_136, if_neg (own_ge (c := 12289) (k := 12289) (by decide) (by omega)), if_pos (own_gt (c := 55295) (k := 55295) (by decide) (by omega)), f2_149, if_neg (own_ge (c := 63744) (k := 63744) (by decide) (by omega)), if_neg (own_le (c := 64975) (k := 64975) (by decide) (by omega))]
  rw [e1, e2]; rfl
theorem own_iv_24 (x : Int32) (h1 : 64976 ≤ x.toInt) (h2 : x.toInt ≤ 65007) : f2_0 x = if f1_0 x = 0 then (1 : Int32) else 0 := by
  have e1 : f1_0 x = 1 := by rw [f1_0, if_neg (own_ge (c := 65) (k := 65) (by decide) (by omega)), if_neg (own_ge (c := 91) (k := 91) (by decide) (by omega)), if_pos (own_gt (c := 96) (k := 96) (by decide) (by omega)), f1_18, if_neg (own_ge (c := 123) (k := 123) (by decide) (by omega)), if_pos (own_gt (c := 191) (k := 191) (by decide) (by omega)), f1_31, if_neg (own_ne (c := 215) (k := 215) (by decide) (by omega)), if_neg (own_ne (c := 247) (k := 247) (by decide) (by omega)), if_neg (own_ge (c := 768) (k := 768) (by decide) (by omega)), if_pos (own_gt (c := 879) (k := 879) (by decide) (by omega)), f1_59, if_neg (own_ne (c := 894) (k := 894) (by decide) (by omega)), if_neg (own_ge (c := 8192) (k := 8192) (by decide) (by omega)), if_pos (own_gt (c := 8203) (k := 8203) (by decide) (by omega)), f1_80, if_neg (own_ge (c := 8206) (k := 8206) (by decide) (by omega)), if_pos (own_gt (c := 8303) (k := 8303) (by decide) (by omega)), f1_94, if_neg (own_ge (c := 8592) (k := 8592) (by decide) (by omega)), if_pos (own_gt (c := 11263) (k := 11263) (by decide) (by omega)), f1_108, if_neg (own_ge (c := 12272) (k := 12272) (by decide) (by omega)), if_pos (own_gt (c := 12288) (k := 12288) (by decide) (by omega)), f1_122, if_neg (own_ge (c := 55296) (k := 55296) (by decide) (by omega)), if_pos (own_gt (c := 63743) (k := 63743) (by decide) (by omega)), f1_134, if_neg (own_ge (c := 64976) (k := 64976) (by decide) (by omega)), if_neg (own_le (c := 65007) (k := 65007) (by decide) (by omega))]
  have e2 : f2_0 x = 0 := by rw [f2_0, if_neg (own_ge (c := 65) (k := 65) (by decide) (by omega)), if_pos (own_gt (c := 90) (k := 90) (by decide) (by omega)), f2_12, if_neg (own_ge (c := 97) (k := 97) (by decide) (by omega)), if_pos (own_gt (c := 122) (k := 122) (by decide) (by omega)), f2_24, if_neg (own_ge (c := 192) (k := 192) (by decide) (by omega)), if_pos (own_gt (c := 214) (k := 214) (by decide) (by omega)), f2_38, if_neg (own_ge (c := 216) (k := 216) (by decide) (by omega)), if_pos (own_gt (c := 246) (k := 246) (by decide) (by omega)), f2_52, if_neg (own_ge (c := 248) (k := 248) (by decide) (by omega)), if_pos (own_gt (c := 767) (k := 767) (by decide) (by omega)), f2_66, if_neg (own_ge (c := 880) (k := 880) (by decide) (by omega)), if_pos (own_gt (c := 893) (k := 893) (by decide) (by omega)), f2_80, if_neg (own_ge (c := 895) (k := 895) (by decide) (by omega)), if_pos (own_gt (c := 8191) (k := 8191) (by decide) (by omega)), f2_94, if_neg (own_ge (c := 8204) (k := 8204) (by decide) (by omega)), if_pos (own_gt (c := 8205) (k := 8205) (by decide) (by omega)), f2_108, if_neg (own_ge (c := 8304) (k := 8304) (by decide) (by omega)), if_pos (own_gt (c := 8591) (k := 8591) (by decide) (by omega)), f2_122, if_neg (own_ge (c := 11264) (k := 11264) (by decide) (by omega)), if_pos (own_gt (c := 12271) (k := 12271) (by decide) (by omega)), f2_136, if_neg (own_ge (c := 12289) (k := 12289) (by decide) (by omega)), if_pos (own_gt (c := 55295) (k := 55295) (by decide) (by omega)), f2_149, if_neg (own_ge (c := 63744) (k := 63744) (by decide) (by omega)), if_pos (own_gt (c := 64975) (k := 64975) (by decide) (by omega)), f2_161, if_pos (own_lt (c := 65008) (k := 65008) (by decide) (by omega)), f2_173, if_pos (own_lt (c := 65536) (k := 65536) (by decide) (by omega))]
  rw [e1, e2]; rfl
theorem own_iv_25 (x : Int32) (h1 : 65008 ≤ x.toInt) (h2 : x.toInt ≤ 65533) : f2_0 x = if f1_0 x = 0 then (1 : Int32) else 0 := by
  have e1 : f1_0 x = 0 := by rw [f1_0, if_neg (own_ge (c := 65) (k := 65) (by decide) (by omega)), if_neg (own_ge (c := 91) (k := 91) (by decide) (by omega)), if_pos (own_gt (c := 96) (k := 96) (by decide) (by omega)), f1_18, if_neg (own_ge (c := 123) (k := 123) (by decide) (by omega)), if_pos (own_gt (c := 191) (k := 191) (by decide) (by omega)), f1_31, if_neg (own_ne (c := 215) (k := 215) (by decide) (by omega)), if_neg (own_ne (c := 247) (k := 247) (by decide) (by omega)), if_neg (own_ge (c := 768) (k := 768) (by decide) (by omega)), if_pos (own_gt (c := 879) (k := 879) (by decide) (by omega)), f1_59, if_neg (own_ne (c := 894) (k := 894) (by decide) (by omega)), if_neg (own_ge (c := 8192) (k := 8192) (by decide) (by omega)), if_pos (own_gt (c := 8203) (k := 8203) (by decide) (by omega)), f1_80, if_neg (own_ge (c := 8206) (k := 8206) (by decide) (by omega)), if_pos (own_gt (c := 8303) (k := 8303) (by decide) (by omega)), f1_94, if_neg (own_ge (c := 8592) (k := 8592) (by decide) (by omega)), if_pos (own_gt (c := 11263) (k := 11263) (by decide) (by omega)), f1_108, if_neg (own_ge (c := 12272) (k := 12272) (by decide) (by omega)), if_pos (own_gt (c := 12288) (k := 12288) (by decide) (by omega)), f1_122, if_neg (own_ge (c := 55296) (k := 55296) (by decide) (by omega)), if_pos (own_gt (c := 63743) (k := 63743) (by decide) (by omega)), f1_134, if_neg (own_ge (c := 64976) (k := 64976) (by decide) (by omega)), if_pos (own_gt (c := 65007) (k := 65007) (by decide) (by omega)), f1_146, if_pos (own_lt (c := 65534) (k := 65534) (by decide) (by omega)), f1_158, if_neg (own_le (c := 983039) (k := 983039) (by decide) (by omega))]
  have e2 : f2_0 x = 1 := by rw [f2_0, if_neg (own_ge (c := 65) (k := 65) (by decide) (by omega)), if_pos (own_gt (c := 90) (k := 90) (by decide) (by omega)), f2_12, if_neg (own_ge (c := 97) (k := 97) (by decide) (by omega)), if_pos (own_gt (c := 122) (k := 122) (by decide) (by omega)), f2_24, if_neg (own_ge (c := 192) (k := 192) (by decide) (by omega)), if_pos (own_gt (c := 214) (k := 214) (by decide) (by omega)), f2_38, if_neg (own_ge (c := 216) (k := 216) (by decide) (by omega)), if_pos (own_gt (c := 246) (k := 246) (by decide) (by omega)), f2_52, if_neg (own_ge (c := 248) (k := 248) (by decide) (by omega)), if_pos (own_gt (c := 767) (k := 767) (by decide) (by omega)), f2_66, if_neg (own_ge (c := 880) (k := 880) (by decide) (by omega)), if_pos (own_gt (c := 893) (k := 893) (by decide) (by omega)), f2_80, if_neg (own_ge (c := 895) (k := 895) (by decide) (by omega)), if_pos (own_gt (c := 8191) (k := 8191) (by decide) (by omega)), f2_94, if_neg (own_ge (c := 8204) (k := 8204) (by decide) (by omega)), if_pos (own_gt (c := 8205) (k := 8205) (by decide) (by omega)), f2_108, if_neg (own_ge (c := 8304) (k := 8304) (by decide) (by omega)), if_pos (own_gt (c := 8591) (k := 8591) (by decide) (by omega)), f2_122, if_neg (own_ge (c := 11264) (k := 11264) (by decide) (by omega)), if_pos (own_gt (c := 12271) (k := 12271) (by decide) (by omega)), f2_136, if_neg (own_ge (c := 12289) (k := 12289) (by decide) (by omega)), if_pos (own_gt (c := 55295) (k := 55295) (by decide) (by omega)), f2_149, if_neg (own_ge (c := 63744) (k := 63744) (by decide) (by omega)), if_pos (own_gt (c := 64975) (k := 64975) (by decide) (by omega)), f2_161, if_neg (own_ge (c := 65008) (k := 65008) (by decide) (by omega)), if_neg (own_le (c := 65533) (k := 65533) (by decide) (by omega))]
  rw [e1, e2]; rfl
theorem own_iv_26 (x : Int32) (h1 : 65534 ≤ x.toInt) (h2 : x.toInt ≤ 65535) : f2_0 x = if f1_0 x = 0 then (1 : Int32) else 0 := by
  have e1 : f1_0 x = 1 := by rw [f1_0, if_neg (own_ge (c := 65) (k := 65) (by decide) (by omega)), if_neg (own_ge (c := 91) (k := 91) (by decide) (by omega)), if_pos (own_gt (c := 96) (k := 96) (by decide) (by omega)), f1_18, if_neg (own_ge (c := 123) (k := 123) (by decide) (by omega)), if_pos (own_gt (c := 191) (k := 191) (by decide) (by omega)), f1_31, if_neg (own_ne (c := 215) (k := 215) (by decide) (by omega)), if_neg (own_ne (c := 247) (k := 247) (by decide) (by omega)), if_neg (own_ge (c := 768) (k := 768) (by decide) (by omega)), if_pos (own_gt (c := 879) (k := 879) (by decide) (by omega)), f1_59, if_neg (own_ne (c := 894) (k := 894) (by decide) (by omega)), if_neg (own_ge (c := 8192) (k := 8192) (by decide) (by omega)), if_pos (own_gt (c := 8203) (k := 8203) (by decide) (by omega)), f1_80, if_neg (own_ge (c := 8206) (k := 8206) (by decide) (by omega)), if_pos (own_gt (c := 8303) (k := 8303) (by decide) (by omega)), f1_94, if_neg (own_ge (c := 8592) (k := 8592) (by decide) (by omega)), if_pos (own_gt (c := 11263) (k := 11263) (by decide) (by omega)), f1_108, if_neg (own_ge (c := 12272) (k := 12272) (by decide) (by omega)), if_pos (own_gt (c := 12288) (k := 12288) (by decide) (by omega)), f1_122, if_neg (own_ge (c := 55296) (k := 55296) (by decide) (by omega)), if_pos (own_gt (c := 63743) (k := 63743) (by decide) (by omega)), f1_134, if_neg (own_ge (c := 64976) (k := 64976) (by decide) (by omega)), if_pos (own_gt (c := 65007) (k := 65007) (by decide) (by omega)), f1_146, if_neg (own_ge (c := 65534) (k := 65534) (by decide) (by omega)), if_neg (own_le (c := 65535) (k := 65535) (by decide) (by omega))]
  have e2 : f2_0 x = 0 := by rw [f2_0, if_neg (own_ge (c := 65) (k := 65) (by decide) (by omega)), if_pos (own_gt (c := 90) (k := 90) (by decide) (by omega)), f2_12, if_neg (own_ge (c := 97) (k := 97) (by decide) (by omega)), if_pos (own_gt (c := 122) (k := 122) (by decide) (by omega)), f2_24, if_neg (own_ge (c := 192) (k := 192) (by decide) (by omega)), if_pos (own_gt (c := 214) (k := 214) (by decide) (by omega)), f2_38, if_neg (own_ge (c := 216) (k := 216) (by decide) (by omega)), if_pos (own_gt (c := 246) (k := 246) (by decide) (by omega)), f2_52, if_neg (own_ge (c := 248) (k := 248) (by decide) (by omega)), if_pos (own_gt (c := 767) (k := 767) (by decide) (by omega)), f2_66, if_neg (own_ge (c := 880) (k := 880) (by decide) (by omega)), if_pos (own_gt (c := 893) (k := 893) (by decide) (by omega)), f2_80, if_neg (own_ge (c := 895) (k := 895) (by decide) (by omega)), if_pos (own_gt (c := 8191) (k := 8191) (by decide) (by omega)), f2_94, if_neg (own_ge (c := 8204) (k := 8204) (by decide) (by omega)), if_pos (own_gt (c := 8205) (k := 8205) (by decide) (by omega)), f2_108, if_neg (own_ge (c := 8304) (k := 8304) (by decide) (by omega)), if_pos (own_gt (c := 8591) (k := 8591) (by decide) (by omega)), f2_122, if_neg (own_ge (c := 11264) (k := 11264) (by decide) (by omega)), if_pos (own_gt (c := 12271) (k := 12271) (by decide) (by omega)), f2_136, if_neg (own_ge (c := 12289) (k := 12289) (by decide) (by omega)), if_pos (own_gt (c := 55295) (k := 55295) (by decide) (by omega)), f2_149, if_neg (own_ge (c := 63744) (k := 63744) (by decide) (by omega)), if_pos (own_gt (c := 64975) (k := 64975) (by decide) (by omega)), f2_161, if_neg (own_ge (c := 65008) (k := 65008) (by decide) (by omega)), if_pos (own_gt (c := 65533) (k := 65533) (by decide) (by omega)), f2_173, if_pos (own_lt (c := 65536) (k := 65536) (by decide) (by omega))]
  rw [e1, e2]; rfl
theorem own_iv_27 (x : Int32) (h1 : 65536 ≤ x.toInt) (h2 : x.toInt ≤ 983039) : f2_0 x = if f1_0 x = 0 then (1 : Int32) else 0 := by
  have e1 : f1_0 x = 0 := by rw [f1_0, if_neg (own_ge (c := 65) (k := 65) (by decide) (by omega)), if_neg (own_ge (c := 91) (k := 91) (by decide) (by omega)), if_pos (own_gt (c := 96) (k := 96) (by decide) (by omega)), f1_18, if_neg (own_ge (c := 123) (k := 123) (by decide) (by omega)), if_pos (own_gt (c := 191) (k := 191) (by decide) (by omega)), f1_31, if_neg (own_ne (c := 215) (k := 215) (by decide) (by omega)), if_neg (own_ne (c := 247) (k := 247) (by decide) (by omega)), if_neg (own_ge (c := 768) (k := 768) (by decide) (by omega)), if_pos (own_gt (c := 879) (k := 879) (by decide) (by omega)), f1_59, if_neg (own_ne (c := 894) (k := 894) (by decide) (by omega)), if_neg (own_ge (c := 8192) (k := 8192) (by decide) (by omega)), if_pos (own_gt (c := 8203) (k := 8203) (by decide) (by omega)), f1_80, if_neg (own_ge (c := 8206) (k := 8206) (by decide) (by omega)), if_pos (own_gt (c := 8303) (k := 8303) (by decide) (by omega)), f1_94, if_neg (own_ge (c := 8592) (k := 8592) (by decide) (by omega)), if_pos (own_gt (c := 11263) (k := 11263) (by decide) (by omega)), f1_108, if_neg (own_ge (c := 12272) (k := 12272) (by decide) (by omega)), if_pos (own_gt (c := 12288) (k := 12288) (by decide) (by omega)), f1_122, if_neg (own_ge (c := 55296) (k := 55296) (by decide) (by omega)), if_pos (own_gt (c := 63743) (k := 63743) (by decide) (by omega)), f1_134, if_neg (own_ge (c := 64976) (k := 64976) (by decide) (by omega)), if_pos (own_gt (c := 65007) (k := 65007) (by decide) (by omega)), f1_146, if_neg (own_ge (c := 65534) (k := 65534) (by decide) (by omega)), if_pos (own_gt (c := 65535) (k := 65535) (by decide) (by omega)), f1_158, if_neg (own_le (c := 983039) (k := 983039) (by decide) (by omega))]
  have e2 : f2_0 x = 1 := by rw [f2_0, if_neg (own_ge (c := 65) (k := 65) (by decide) (by omega)), if_pos (own_gt (c := 90) (k := 90) (by decide) (by omega)), f2_12, if_neg (own_ge (c := 97) (k := 97) (by decide) (by omega)), if_pos (own_gt (c := 122) (k := 122) (by decide) (by omega)), f2_24, if_neg (own_ge (c := 192) (k := 192) (by decide) (by omega)), if_pos (own_gt (c := 214) (k := 214) (by decide) (by omega)), f2_38, if_neg (own_ge (c := 216) (k := 216) (by decide) (by omega)), if_pos (own_gt (c := 246) (k := 246) (by decide) (by omega)), f2_52, if_neg (own_ge (c := 248) (k := 248) (by decide) (by omega)), if_pos (own_gt (c := 767) (k := 767) (by decide) (by omega)), f2_66, if_neg (own_ge (c := 880) (k := 880) (by decide) (by omega)), if_pos (own_gt (c := 893) (k := 893) (by decide) (by omega)), f2_80, if_neg (own_ge (c := 895) (k := 895) (by decide) (by omega)), if_pos (own_gt (c := 8191) (k := 8191) (by decide) (by omega)), f2_94, if_neg (own_ge (c := 8204) (k := 8204) (by decide) (by omega)), if_pos (own_gt (c := 8205) (k := 8205) (by decide) (by omega)), f2_108, if_neg (own_ge (c := 8304) (k := 8304) (by decide) (by omega)), if_pos (own_gt (c := 8591) (k := 8591) (by decide) (by omega)), f2_122, if_neg (own_ge (c := 11264) (k := 11264) (by decide) (by omega)), if_pos (own_gt (c := 12271) (k := 12271) (by decide) (by omega)), f2_136, if_neg (own_ge (c := 12289) (k := 12289) (by decide) (by omega)), if_pos (own_gt (c := 55295) (k := 55295) (by decide) (by omega)), f2_149, if_neg (own_ge (c := 63744) (k := 63744) (by decide) (by omega)), if_pos (own_gt (c := 64975) (k := 64975) (by decide) (by omega)), f2_161, if_neg (own_ge (c := 65008) (k := 65008) (by decide) (by omega)), if_pos (own_gt (c := 65533) (k := 65533) (by decide) (by omega)), f2_173, if_neg (own_ge (c := 65536) (k := 65536) (by decide) (by omega)), if_neg (own_le (c := 983039) (k := 983039) (by decide) (by omega))]
  rw [e1, e2]; rfl
theorem own_iv_28 (x : Int32) (h1 : 983040 ≤ x.toInt) : f2_0 x = if f1_0 x = 0 then (1 : Int32) else 0 := by
  have e1 : f1_0 x = 1 := by rw [f1_0, if_neg (own_ge (c := 65) (k := 65) (by decide) (by omega)), if_neg (own_ge (c := 91) (k := 91) (by decide) (by omega)), if_pos (own_gt (c := 96) (k := 96) (by decide) (by omega)), f1_18, if_neg (own_ge (c := 123) (k := 123) (by decide) (by omega)), if_pos (own_gt (c := 191) (k := 191) (by decide) (by omega)), f1_31, if_neg (own_ne (c := 215) (k := 215) (by decide) (by omega)), if_neg (own_ne (c := 247) (k := 247) (by decide) (by omega)), if_neg (own_ge (c := 768) (k := 768) (by decide) (by omega)), if_pos (own_gt (c := 879) (k := 879) (by decide) (by omega)), f1_59, if_neg (own_ne (c := 894) (k := 894) (by decide) (by omega)), if_neg (own_ge (c := 8192) (k := 8192) (by decide) (by omega)), if_pos (own_gt (c := 8203) (k := 8203) (by decide) (by omega)), f1_80, if_neg (own_ge (c := 8206) (k := 8206) (by decide) (by omega)), if_pos (own_gt (c := 8303) (k := 8303) (by decide) (by omega)), f1_94, if_neg (own_ge (c := 8592) (k := 8592) (by decide) (by omega)), if_pos (own_gt (c := 11263) (k := 11263) (by decide) (by omega)), f1_108, if_neg (own_ge (c := 12272) (k := 12272) (by decide) (by omega)), if_pos (own_gt (c := 12288) (k := 12288) (by decide) (by omega)), f1_122, if_neg (own_ge (c := 55296) (k := 55296) (by decide) (by omega)), if_pos (own_gt (c := 63743) (k := 63743) (by decide) (by omega)), f1_134, if_neg (own_ge (c := 64976) (k := 64976) (by decide) (by omega)), if_pos (own_gt (c := 65007) (k := 65007) (by decide) (by omega)), f1_146, if_neg (own_ge (c := 65534) (k := 65534) (by decide) (by omega)), if_pos (own_gt (c := 65535) (k := 65535) (by decide) (by omega)), f1_158, if_pos (own_gt (c := 983039) (k := 983039) (by decide) (by omega))]
  have e2 : f2_0 x = 0 := by rw [f2_0, if_neg (own_ge (c := 65) (k := 65) (by decide) (by omega)), if_pos (own_gt (c := 90) (k := 90) (by decide) (by omega)), f2_12, if_neg (own_ge (c := 97) (k := 97) (by decide) (by omega)), if_pos (own_gt (c := 122) (k := 122) (by decide) (by omega)), f2_24, if_neg (own_ge (c := 192) (k := 192) (by decide) (by omega)), if_pos (own_gt (c := 214) (k := 214) (by decide) (by omega)), f2_38, if_neg (own_ge (c := 216) (k := 216) (by decide) (by omega)), if_pos (own_gt (c := 246) (k := 246) (by decide) (by omega)), f2_52, if_neg (own_ge (c := 248) (k := 248) (by decide) (by omega)), if_pos (own_gt (c := 767) (k := 767) (by decide) (by omega)), f2_66, if_neg (own_ge (c := 880) (k := 880) (by decide) (by omega)), if_pos (own_gt (c := 893) (k := 893) (by decide) (by omega)), f2_80, if_neg (own_ge (c := 895) (k := 895) (by decide) (by omega)), if_pos (own_gt (c := 8191) (k := 8191) (by decide) (by omega)), f2_94, if_neg (own_ge (c := 8204) (k := 8204) (by decide) (by omega)), if_pos (own_gt (c := 8205) (k := 8205) (by decide) (by omega)), f2_108, if_neg (own_ge (c := 8304) (k := 8304) (by decide) (by omega)), if_pos (own_gt (c := 8591) (k := 8591) (by decide) (by omega)), f2_122, if_neg (own_ge (c := 11264) (k := 11264) (by decide) (by omega)), if_pos (own_gt (c := 12271) (k := 12271) (by decide) (by omega)), f2_136, if_neg (own_ge (c := 12289) (k := 12289) (by decide) (by omega)), if_pos (own_gt (c := 55295) (k := 55295) (by decide) (by omega)), f2_149, if_neg (own_ge (c := 63744) (k := 63744) (by decide) (by omega)), if_pos (own_gt (c := 64975) (k := 64975) (by decide) (by omega)), f2_161, if_neg (own_ge (c := 65008) (k := 65008) (by decide) (by omega)), if_pos (own_gt (c := 65533) (k := 65533) (by decide) (by omega)), f2_173, if_neg (own_ge (c := 65536) (k := 65536) (by decide) (by omega)), if_pos (own_gt (c := 983039) (k := 983039) (by decide) (by omega))]
  rw [e1, e2]; rfl
theorem own_law (x : Int32) : f2_0 x = if f1_0 x = 0 then (1 : Int32) else 0 := by
  by_cases q0 : x.toInt ≤ 64
  · exact own_iv_0 x q0
  by_cases q1 : x.toInt ≤ 90
  · exact own_iv_1 x (by omega) q1
  by_cases q2 : x.toInt ≤ 96
  · exact own_iv_2 x (by omega) q2
  by_cases q3 : x.toInt ≤ 122
  · exact own_iv_3 x (by omega) q3
  by_cases q4 : x.toInt ≤ 191
  · exact own_iv_4 x (by omega) q4
  by_cases q5 : x.toInt ≤ 214
  · exact own_iv_5 x (by omega) q5
  by_cases q6 : x.toInt ≤ 215
  · exact own_iv_6 x (by omega) q6
  by_cases q7 : x.toInt ≤ 246
  · exact own_iv_7 x (by omega) q7
  by_cases q8 : x.toInt ≤ 247
  · exact own_iv_8 x (by omega) q8
  by_cases q9 : x.toInt ≤ 767
  · exact own_iv_9 x (by omega) q9
  by_cases q10 : x.toInt ≤ 879
  · exact own_iv_10 x (by omega) q10
  by_cases q11 : x.toInt ≤ 893
  · exact own_iv_11 x (by omega) q11
  by_cases q12 : x.toInt ≤ 894
  · exact own_iv_12 x (by omega) q12
  by_cases q13 : x.toInt ≤ 8191
  · exact own_iv_13 x (by omega) q13
  by_cases q14 : x.toInt ≤ 8203
  · exact own_iv_14 x (by omega) q14
  by_cases q15 : x.toInt ≤ 8205
  · exact own_iv_15 x (by omega) q15
  by_cases q16 : x.toInt ≤ 8303
  · exact own_iv_16 x (by omega) q16
  by_cases q17 : x.toInt ≤ 8591
  · exact own_iv_17 x (by omega) q17
  by_cases q18 : x.toInt ≤ 11263
  · exact own_iv_18 x (by omega) q18
  by_cases q19 : x.toInt ≤ 12271
  · exact own_iv_19 x (by omega) q19
  by_cases q20 : x.toInt ≤ 12288
  · exact own_iv_20 x (by omega) q20
  by_cases q21 : x.toInt ≤ 55295
  · exact own_iv_21 x (by omega) q21
  by_cases q22 : x.toInt ≤ 63743
  · exact own_iv_22 x (by omega) q22
  by_cases q23 : x.toInt ≤ 64975
  · exact own_iv_23 x (by omega) q23
  by_cases q24 : x.toInt ≤ 65007
  · exact own_iv_24 x (by omega) q24
  by_cases q25 : x.toInt ≤ 65533
  · exact own_iv_25 x (by omega) q25
  by_cases q26 : x.toInt ≤ 65535
  · exact own_iv_26 x (by omega) q26
  by_cases q27 : x.toInt ≤ 983039
  · exact own_iv_27 x (by omega) q27
  exact own_iv_28 x (by omega)
def own_edges : List Int32 := [65, 90, 97, 122, 192, 214, 216, 246, 248, 767, 880, 893, 895, 8191, 8204, 8205, 8304, 8591, 11264, 12271, 12289, 55295, 63744, 64975, 65008, 65533, 65536, 983039]
theorem own_gd (xs : List Int32) (i : Nat) : (xs.map Value.int).getD i (.int 0) = .int (xs.getD i 0) := by
  simp only [List.getD_eq_getElem?_getD, List.getElem?_map]
  cases xs[i]? <;> rfl
theorem own_j (y : Int32) : ¬ ((y &&& (2147483647 : Int32)) % (28 : Int32)) < 0 ∧ ((y &&& (2147483647 : Int32)) % (28 : Int32)) < 28 := by
  have h1 := c_mask y 2147483647 31 (by decide) (by decide)
  have h2 := c_irem (y &&& (2147483647 : Int32)) 28 28 (by decide)
  have h3 : 0 ≤ (y &&& (2147483647 : Int32)).toInt := by rw [h1]; omega
  have h4 := h2.1 h3
  rw [Int32.lt_iff_toInt_lt, Int32.lt_iff_toInt_lt, h4, show (0 : Int32).toInt = 0 from rfl, show (28 : Int32).toInt = 28 from rfl]
  omega
def own_Q0 : Option Value → Heap → Prop := fun v _ => v = some (.int 1) ∧ True
theorem pd_0 : parseMethodDescriptor "(I)Z" = some ⟨[.int], some .boolean⟩ := by decide +kernel
theorem ef_0 (m : MethodId) (p0 : Int32) (p1 : Int32) (p2 : Int32) : entryFrame m #[(.int p0), (.int p1), (.int p2)] maxLocals = mkF m 0 #[.val (.int p0), .val (.int p1), .val (.int p2), .unset, .unset, .unset] [] := by first | (simp [entryFrame, mkF, argsToLocals, Value.category, maxLocals]; done) | rfl
set_option maxRecDepth 65536 in
set_option maxHeartbeats 40000000 in
theorem rm0 (l : Launch) (Z : State) (a0 : Array Value) (hw : ∀ d ∈ tables_1, d.before a0 Z = true) (p0 p1 p2 : Int32) (h0 : Heap) (n0 : Nat) (Z0 : n0 ≤ h0.size) : own_Con tables_1 l Z x code maxLocals ret room_1 n0 #[(.int p0), (.int p1), (.int p2)] h0 own_Q0 := by
  refine own_body (plainFor_of_name (by first | (simp [plainName, overriddenIn]; done) | decide +kernel)) (fun m => mkF m 0 #[.val (.int p0), .val (.int p1), .val (.int p2), .unset, .unset, .unset] []) (fun m => ef_0 m p0 p1 p2) ?_
  intro p e s m below meth c s₁ hx hby hml hown hnm hZ hret hlk X0 e0 N0
  have hml : c.maxLocals = 6 := hml
  have hown : s.vm.findClass x.cls = some m.cls := hown
  have hret : meth.sig.returnType = some .boolean := hret
  refine own_go (T' := s₁) (g' := (mkF m 2 #[.val (.int p0), .val (.int p1), .val (.int p2), .unset, .unset, .unset] [(.int (28 : Int32))])) (fun t k => ?_) ?_
  · show Steps p.tables e below (s₁.setTop (mkF m 0 #[.val (.int p0), .val (.int p1), .val (.int p2), .unset, .unset, .unset] [])) t
    refine XS.bipush X0.here hx rfl (hb hby at_0) ?_
    show Steps p.tables e below (s₁.setTop (mkF m 2 #[.val (.int p0), .val (.int p1), .val (.int p2), .unset, .unset, .unset] [(.int (28 : Int32))])) _
    exact k
  obtain ⟨T1, h1, k1, b1, g1, X1, e1, E1, A1, st1⟩ := own_new X0 hx hZ (hw _ (List.mem_of_getElem? (i := 0) rfl)) e0 (g := (mkF m 2 #[.val (.int p0), .val (.int p1), .val (.int p2), .unset, .unset, .unset] [(.int (28 : Int32))])) rfl (hb hby at_2) rfl (by decide) (cap := 28) (by decide) (by decide) (by decide) (by decide)
  have ga_b1 : n0 ≤ b1 := Nat.le_trans Z0 (Nat.le_of_eq g1.symm)
  have sz_1 := Nat.le_trans Z0 E1.1
  have V_b1_1 : Arv Z h1 b1 k1 .int (28 : Int32) [(.int (0 : Int32)), (.int (0 : Int32)), (.int (0 : Int32)), (.int (0 : Int32)), (.int (0 : Int32)), (.int (0 : Int32)), (.int (0 : Int32)), (.int (0 : Int32)), (.int (0 : Int32)), (.int (0 : Int32)), (.int (0 : Int32)), (.int (0 : Int32)), (.int (0 : Int32)), (.int (0 : Int32)), (.int (0 : Int32)), (.int (0 : Int32)), (.int (0 : Int32)), (.int (0 : Int32)), (.int (0 : Int32)), (.int (0 : Int32)), (.int (0 : Int32)), (.int (0 : Int32)), (.int (0 : Int32)), (.int (0 : Int32)), (.int (0 : Int32)), (.int (0 : Int32)), (.int (0 : Int32)), (.int (0 : Int32))] (.int (0 : Int32)) := A1.pad (pad_rep [] (.int (0 : Int32)) 28)
  refine own_go (T' := T1) (g' := (mkF m 4 #[.val (.int p0), .val (.int p1), .val (.int p2), .unset, .unset, .unset] [(.ref b1)])) st1 ?_
  refine own_go (T' := T1) (g' := (mkF m 8 #[.val (.int p0), .val (.int p1), .val (.int p2), .unset, .unset, .unset] [(.int (65 : Int32)), (.int (0 : Int32)), (.ref b1), (.ref b1)])) (fun t k => ?_) ?_
  · show Steps p.tables e below (T1.setTop (mkF m 4 #[.val (.int p0), .val (.int p1), .val (.int p2), .unset, .unset, .unset] [(.ref b1)])) t
    refine XS.dup X1.here hx rfl (hb hby at_4) rfl rfl ?_
    show Steps p.tables e below (T1.setTop (mkF m 5 #[.val (.int p0), .val (.int p1), .val (.int p2), .unset, .unset, .unset] [(.ref b1), (.ref b1)])) _
    refine XS.iconst X1.here hx rfl (hb hby at_5) ?_
    show Steps p.tables e below (T1.setTop (mkF m 6 #[.val (.int p0), .val (.int p1), .val (.int p2), .unset, .unset, .unset] [(.int (0 : Int32)), (.ref b1), (.ref b1)])) _
    refine XS.bipush X1.here hx rfl (hb hby at_6) ?_
    show Steps p.tables e below (T1.setTop (mkF m 8 #[.val (.int p0), .val (.int p1), .val (.int p2), .unset, .unset, .unset] [(.int (65 : Int32)), (.int (0 : Int32)), (.ref b1), (.ref b1)])) _
    exact k
  obtain ⟨T2, h2, L2, X2, N2, e2, W2, Y2, st2⟩ := own_stI X1 hx hZ e1 V_b1_1 (j := (0 : Int32)) (by decide) 0 rfl (by decide) N0 ga_b1 (g := (mkF m 8 #[.val (.int p0), .val (.int p1), .val (.int p2), .unset, .unset, .unset] [(.int (65 : Int32)), (.int (0 : Int32)), (.ref b1), (.ref b1)])) rfl rfl (hb hby at_8)
  have V_b1_2 : Arv Z h2 b1 k1 .int (28 : Int32) [(.int (65 : Int32)), (.int (0 : Int32)), (.int (0 : Int32)), (.int (0 : Int32)), (.int (0 : Int32)), (.int (0 : Int32)), (.int (0 : Int32)), (.int (0 : Int32)), (.int (0 : Int32)), (.int (0 : Int32)), (.int (0 : Int32)), (.int (0 : Int32)), (.int (0 : Int32)), (.int (0 : Int32)), (.int (0 : Int32)), (.int (0 : Int32)), (.int (0 : Int32)), (.int (0 : Int32)), (.int (0 : Int32)), (.int (0 : Int32)), (.int (0 : Int32)), (.int (0 : Int32)), (.int (0 : Int32)), (.int (0 : Int32)), (.int (0 : Int32)), (.int (0 : Int32)), (.int (0 : Int32)), (.int (0 : Int32))] (.int (0 : Int32)) := Y2
  have sz_2 := Nat.le_trans sz_1 (Nat.le_of_eq (Wr.size W2).symm)
  refine own_go (T' := T2) (g' := (mkF m 9 #[.val (.int p0), .val (.int p1), .val (.int p2), .unset, .unset, .unset] [(.ref b1)])) st2 ?_
  refine own_go (T' := T2) (g' := (mkF m 13 #[.val (.int p0), .val (.int p1), .val (.int p2), .unset, .unset, .unset] [(.int (90 : Int32)), (.int (1 : Int32)), (.ref b1), (.ref b1)])) (fun t k => ?_) ?_
  · show Steps p.tables e below (T2.setTop (mkF m 9 #[.val (.int p0), .val (.int p1), .val (.int p2), .unset, .unset, .unset] [(.ref b1)])) t
    refine XS.dup X2.here hx rfl (hb hby at_9) rfl rfl ?_
    show Steps p.tables e below (T2.setTop (mkF m 10 #[.val (.int p0), .val (.int p1), .val (.int p2), .unset, .unset, .unset] [(.ref b1), (.ref b1)])) _
    refine XS.iconst X2.here hx rfl (hb hby at_10) ?_
    show Steps p.tables e below (T2.setTop (mkF m 11 #[.val (.int p0), .val (.int p1), .val (.int p2), .unset, .unset, .unset] [(.int (1 : Int32)), (.ref b1), (.ref b1)])) _
    refine XS.bipush X2.here hx rfl (hb hby at_11) ?_
    show Steps p.tables e below (T2.setTop (mkF m 13 #[.val (.int p0), .val (.int p1), .val (.int p2), .unset, .unset, .unset] [(.int (90 : Int32)), (.int (1 : Int32)), (.ref b1), (.ref b1)])) _
    exact k
  obtain ⟨T3, h3, L3, X3, N3, e3, W3, Y3, st3⟩ := own_stI X2 hx hZ e2 V_b1_2 (j := (1 : Int32)) (by decide) 1 rfl (by decide) N2 ga_b1 (g := (mkF m 13 #[.val (.int p0), .val (.int p1), .val (.int p2), .unset, .unset, .unset] [(.int (90 : Int32)), (.int (1 : Int32)), (.ref b1), (.ref b1)])) rfl rfl (hb hby at_13)
  have V_b1_3 : Arv Z h3 b1 k1 .int (28 : Int32) [(.int (65 : Int32)), (.int (90 : Int32)), (.int (0 : Int32)), (.int (0 : Int32)), (.int (0 : Int32)), (.int (0 : Int32)), (.int (0 : Int32)), (.int (0 : Int32)), (.int (0 : Int32)), (.int (0 : Int32)), (.int (0 : Int32)), (.int (0 : Int32)), (.int (0 : Int32)), (.int (0 : Int32)), (.int (0 : Int32)), (.int (0 : Int32)), (.int (0 : Int32)), (.int (0 : Int32)), (.int (0 : Int32)), (.int (0 : Int32)), (.int (0 : Int32)), (.int (0 : Int32)), (.int (0 : Int32)), (.int (0 : Int32)), (.int (0 : Int32)), (.int (0 : Int32)), (.int (0 : Int32)), (.int (0 : Int32))] (.int (0 : Int32)) := Y3
  have sz_3 := Nat.le_trans sz_2 (Nat.le_of_eq (Wr.size W3).symm)
  refine own_go (T' := T3) (g' := (mkF m 14 #[.val (.int p0), .val (.int p1), .val (.int p2), .unset, .unset, .unset] [(.ref b1)])) st3 ?_
  refine own_go (T' := T3) (g' := (mkF m 18 #[.val (.int p0), .val (.int p1), .val (.int p2), .unset, .unset, .unset] [(.int (97 : Int32)), (.int (2 : Int32)), (.ref b1), (.ref b1)])) (fun t k => ?_) ?_
  · show Steps p.tables e below (T3.setTop (mkF m 14 #[.val (.int p0), .val (.int p1), .val (.int p2), .unset, .unset, .unset] [(.ref b1)])) t
    refine XS.dup X3.here hx rfl (hb hby at_14) rfl rfl ?_
    show Steps p.tables e below (T3.setTop (mkF m 15 #[.val (.int p0), .val (.int p1), .val (.int p2), .unset, .unset, .unset] [(.ref b1), (.ref b1)])) _
    refine XS.iconst X3.here hx rfl (hb hby at_15) ?_
    show Steps p.tables e below (T3.setTop (mkF m 16 #[.val (.int p0), .val (.int p1), .val (.int p2), .unset, .unset, .unset] [(.int (2 : Int32)), (.ref b1), (.ref b1)])) _
    refine XS.bipush X3.here hx rfl (hb hby at_16) ?_
    show Steps p.tables e below (T3.setTop (mkF m 18 #[.val (.int p0), .val (.int p1), .val (.int p2), .unset, .unset, .unset] [(.int (97 : Int32)), (.int (2 : Int32)), (.ref b1), (.ref b1)])) _
    exact k
  obtain ⟨T4, h4, L4, X4, N4, e4, W4, Y4, st4⟩ := own_stI X3 hx hZ e3 V_b1_3 (j := (2 : Int32)) (by decide) 2 rfl (by decide) N3 ga_b1 (g := (mkF m 18 #[.val (.int p0), .val (.int p1), .val (.int p2), .unset, .unset, .unset] [(.int (97 : Int32)), (.int (2 : Int32)), (.ref b1), (.ref b1)])) rfl rfl (hb hby at_18)
  have V_b1_4 : Arv Z h4 b1 k1 .int (28 : Int32) [(.int (65 : Int32)), (.int (90 : Int32)), (.int (97 : Int32)), (.int (0 : Int32)), (.int (0 : Int32)), (.int (0 : Int32)), (.int (0 : Int32)), (.int (0 : Int32)), (.int (0 : Int32)), (.int (0 : Int32)), (.int (0 : Int32)), (.int (0 : Int32)), (.int (0 : Int32)), (.int (0 : Int32)), (.int (0 : Int32)), (.int (0 : Int32)), (.int (0 : Int32)), (.int (0 : Int32)), (.int (0 : Int32)), (.int (0 : Int32)), (.int (0 : Int32)), (.int (0 : Int32)), (.int (0 : Int32)), (.int (0 : Int32)), (.int (0 : Int32)), (.int (0 : Int32)), (.int (0 : Int32)), (.int (0 : Int32))] (.int (0 : Int32)) := Y4
  have sz_4 := Nat.le_trans sz_3 (Nat.le_of_eq (Wr.size W4).symm)
  refine own_go (T' := T4) (g' := (mkF m 19 #[.val (.int p0), .val (.int p1), .val (.int p2), .unset, .unset, .unset] [(.ref b1)])) st4 ?_
  refine own_go (T' := T4) (g' := (mkF m 23 #[.val (.int p0), .val (.int p1), .val (.int p2), .unset, .unset, .unset] [(.int (122 : Int32)), (.int (3 : Int32)), (.ref b1), (.ref b1)])) (fun t k => ?_) ?_
  · show Steps p.tables e below (T4.setTop (mkF m 19 #[.val (.int p0), .val (.int p1), .val (.int p2), .unset, .unset, .unset] [(.ref b1)])) t
    refine XS.dup X4.here hx rfl (hb hby at_19) rfl rfl ?_
    show Steps p.tables e below (T4.setTop (mkF m 20 #[.val (.int p0), .val (.int p1), .val (.int p2), .unset, .unset, .unset] [(.ref b1), (.ref b1)])) _
    refine XS.iconst X4.here hx rfl (hb hby at_20) ?_
    show Steps p.tables e below (T4.setTop (mkF m 21 #[.val (.int p0), .val (.int p1), .val (.int p2), .unset, .unset, .unset] [(.int (3 : Int32)), (.ref b1), (.ref b1)])) _
    refine XS.bipush X4.here hx rfl (hb hby at_21) ?_
    show Steps p.tables e below (T4.setTop (mkF m 23 #[.val (.int p0), .val (.int p1), .val (.int p2), .unset, .unset, .unset] [(.int (122 : Int32)), (.int (3 : Int32)), (.ref b1), (.ref b1)])) _
    exact k
  obtain ⟨T5, h5, L5, X5, N5, e5, W5, Y5, st5⟩ := own_stI X4 hx hZ e4 V_b1_4 (j := (3 : Int32)) (by decide) 3 rfl (by decide) N4 ga_b1 (g := (mkF m 23 #[.val (.int p0), .val (.int p1), .val (.int p2), .unset, .unset, .unset] [(.int (122 : Int32)), (.int (3 : Int32)), (.ref b1), (.ref b1)])) rfl rfl (hb hby at_23)
  have V_b1_5 : Arv Z h5 b1 k1 .int (28 : Int32) [(.int (65 : Int32)), (.int (90 : Int32)), (.int (97 : Int32)), (.int (122 : Int32)), (.int (0 : Int32)), (.int (0 : Int32)), (.int (0 : Int32)), (.int (0 : Int32)), (.int (0 : Int32)), (.int (0 : Int32)), (.int (0 : Int32)), (.int (0 : Int32)), (.int (0 : Int32)), (.int (0 : Int32)), (.int (0 : Int32)), (.int (0 : Int32)), (.int (0 : Int32)), (.int (0 : Int32)), (.int (0 : Int32)), (.int (0 : Int32)), (.int (0 : Int32)), (.int (0 : Int32)), (.int (0 : Int32)), (.int (0 : Int32)), (.int (0 : Int32)), (.int (0 : Int32)), (.int (0 : Int32)), (.int (0 : Int32))] (.int (0 : Int32)) := Y5
  have sz_5 := Nat.le_trans sz_4 (Nat.le_of_eq (Wr.size W5).symm)
  refine own_go (T' := T5) (g' := (mkF m 24 #[.val (.int p0), .val (.int p1), .val (.int p2), .unset, .unset, .unset] [(.ref b1)])) st5 ?_
  refine own_go (T' := T5) (g' := (mkF m 29 #[.val (.int p0), .val (.int p1), .val (.int p2), .unset, .unset, .unset] [(.int (192 : Int32)), (.int (4 : Int32)), (.ref b1), (.ref b1)])) (fun t k => ?_) ?_
  · show Steps p.tables e below (T5.setTop (mkF m 24 #[.val (.int p0), .val (.int p1), .val (.int p2), .unset, .unset, .unset] [(.ref b1)])) t
    refine XS.dup X5.here hx rfl (hb hby at_24) rfl rfl ?_
    show Steps p.tables e below (T5.setTop (mkF m 25 #[.val (.int p0), .val (.int p1), .val (.int p2), .unset, .unset, .unset] [(.ref b1), (.ref b1)])) _
    refine XS.iconst X5.here hx rfl (hb hby at_25) ?_
    show Steps p.tables e below (T5.setTop (mkF m 26 #[.val (.int p0), .val (.int p1), .val (.int p2), .unset, .unset, .unset] [(.int (4 : Int32)), (.ref b1), (.ref b1)])) _
    refine XS.sipush X5.here hx rfl (hb hby at_26) ?_
    show Steps p.tables e below (T5.setTop (mkF m 29 #[.val (.int p0), .val (.int p1), .val (.int p2), .unset, .unset, .unset] [(.int (192 : Int32)), (.int (4 : Int32)), (.ref b1), (.ref b1)])) _
    exact k
  obtain ⟨T6, h6, L6, X6, N6, e6, W6, Y6, st6⟩ := own_stI X5 hx hZ e5 V_b1_5 (j := (4 : Int32)) (by decide) 4 rfl (by decide) N5 ga_b1 (g := (mkF m 29 #[.val (.int p0), .val (.int p1), .val (.int p2), .unset, .unset, .unset] [(.int (192 : Int32)), (.int (4 : Int32)), (.ref b1), (.ref b1)])) rfl rfl (hb hby at_29)
  have V_b1_6 : Arv Z h6 b1 k1 .int (28 : Int32) [(.int (65 : Int32)), (.int (90 : Int32)), (.int (97 : Int32)), (.int (122 : Int32)), (.int (192 : Int32)), (.int (0 : Int32)), (.int (0 : Int32)), (.int (0 : Int32)), (.int (0 : Int32)), (.int (0 : Int32)), (.int (0 : Int32)), (.int (0 : Int32)), (.int (0 : Int32)), (.int (0 : Int32)), (.int (0 : Int32)), (.int (0 : Int32)), (.int (0 : Int32)), (.int (0 : Int32)), (.int (0 : Int32)), (.int (0 : Int32)), (.int (0 : Int32)), (.int (0 : Int32)), (.int (0 : Int32)), (.int (0 : Int32)), (.int (0 : Int32)), (.int (0 : Int32)), (.int (0 : Int32)), (.int (0 : Int32))] (.int (0 : Int32)) := Y6
  have sz_6 := Nat.le_trans sz_5 (Nat.le_of_eq (Wr.size W6).symm)
  refine own_go (T' := T6) (g' := (mkF m 30 #[.val (.int p0), .val (.int p1), .val (.int p2), .unset, .unset, .unset] [(.ref b1)])) st6 ?_
  refine own_go (T' := T6) (g' := (mkF m 35 #[.val (.int p0), .val (.int p1), .val (.int p2), .unset, .unset, .unset] [(.int (214 : Int32)), (.int (5 : Int32)), (.ref b1), (.ref b1)])) (fun t k => ?_) ?_
  · show Steps p.tables e below (T6.setTop (mkF m 30 #[.val (.int p0), .val (.int p1), .val (.int p2), .unset, .unset, .unset] [(.ref b1)])) t
    refine XS.dup X6.here hx rfl (hb hby at_30) rfl rfl ?_
    show Steps p.tables e below (T6.setTop (mkF m 31 #[.val (.int p0), .val (.int p1), .val (.int p2), .unset, .unset, .unset] [(.ref b1), (.ref b1)])) _
    refine XS.iconst X6.here hx rfl (hb hby at_31) ?_
    show Steps p.tables e below (T6.setTop (mkF m 32 #[.val (.int p0), .val (.int p1), .val (.int p2), .unset, .unset, .unset] [(.int (5 : Int32)), (.ref b1), (.ref b1)])) _
    refine XS.sipush X6.here hx rfl (hb hby at_32) ?_
    show Steps p.tables e below (T6.setTop (mkF m 35 #[.val (.int p0), .val (.int p1), .val (.int p2), .unset, .unset, .unset] [(.int (214 : Int32)), (.int (5 : Int32)), (.ref b1), (.ref b1)])) _
    exact k
  obtain ⟨T7, h7, L7, X7, N7, e7, W7, Y7, st7⟩ := own_stI X6 hx hZ e6 V_b1_6 (j := (5 : Int32)) (by decide) 5 rfl (by decide) N6 ga_b1 (g := (mkF m 35 #[.val (.int p0), .val (.int p1), .val (.int p2), .unset, .unset, .unset] [(.int (214 : Int32)), (.int (5 : Int32)), (.ref b1), (.ref b1)])) rfl rfl (hb hby at_35)
  have V_b1_7 : Arv Z h7 b1 k1 .int (28 : Int32) [(.int (65 : Int32)), (.int (90 : Int32)), (.int (97 : Int32)), (.int (122 : Int32)), (.int (192 : Int32)), (.int (214 : Int32)), (.int (0 : Int32)), (.int (0 : Int32)), (.int (0 : Int32)), (.int (0 : Int32)), (.int (0 : Int32)), (.int (0 : Int32)), (.int (0 : Int32)), (.int (0 : Int32)), (.int (0 : Int32)), (.int (0 : Int32)), (.int (0 : Int32)), (.int (0 : Int32)), (.int (0 : Int32)), (.int (0 : Int32)), (.int (0 : Int32)), (.int (0 : Int32)), (.int (0 : Int32)), (.int (0 : Int32)), (.int (0 : Int32)), (.int (0 : Int32)), (.int (0 : Int32)), (.int (0 : Int32))] (.int (0 : Int32)) := Y7
  have sz_7 := Nat.le_trans sz_6 (Nat.le_of_eq (Wr.size W7).symm)
  refine own_go (T' := T7) (g' := (mkF m 36 #[.val (.int p0), .val (.int p1), .val (.int p2), .unset, .unset, .unset] [(.ref b1)])) st7 ?_
  refine own_go (T' := T7) (g' := (mkF m 42 #[.val (.int p0), .val (.int p1), .val (.int p2), .unset, .unset, .unset] [(.int (216 : Int32)), (.int (6 : Int32)), (.ref b1), (.ref b1)])) (fun t k => ?_) ?_
  · show Steps p.tables e below (T7.setTop (mkF m 36 #[.val (.int p0), .val (.int p1), .val (.int p2), .unset, .unset, .unset] [(.ref b1)])) t
    refine XS.dup X7.here hx rfl (hb hby at_36) rfl rfl ?_
    show Steps p.tables e below (T7.setTop (mkF m 37 #[.val (.int p0), .val (.int p1), .val (.int p2), .unset, .unset, .unset] [(.ref b1), (.ref b1)])) _
    refine XS.bipush X7.here hx rfl (hb hby at_37) ?_
    show Steps p.tables e below (T7.setTop (mkF m 39 #[.val (.int p0), .val (.int p1), .val (.int p2), .unset, .unset, .unset] [(.int (6 : Int32)), (.ref b1), (.ref b1)])) _
    refine XS.sipush X7.here hx rfl (hb hby at_39) ?_
    show Steps p.tables e below (T7.setTop (mkF m 42 #[.val (.int p0), .val (.int p1), .val (.int p2), .unset, .unset, .unset] [(.int (216 : Int32)), (.int (6 : Int32)), (.ref b1), (.ref b1)])) _
    exact k
  obtain ⟨T8, h8, L8, X8, N8, e8, W8, Y8, st8⟩ := own_stI X7 hx hZ e7 V_b1_7 (j := (6 : Int32)) (by decide) 6 rfl (by decide) N7 ga_b1 (g := (mkF m 42 #[.val (.int p0), .val (.int p1), .val (.int p2), .unset, .unset, .unset] [(.int (216 : Int32)), (.int (6 : Int32)), (.ref b1), (.ref b1)])) rfl rfl (hb hby at_42)
  have V_b1_8 : Arv Z h8 b1 k1 .int (28 : Int32) [(.int (65 : Int32)), (.int (90 : Int32)), (.int (97 : Int32)), (.int (122 : Int32)), (.int (192 : Int32)), (.int (214 : Int32)), (.int (216 : Int32)), (.int (0 : Int32)), (.int (0 : Int32)), (.int (0 : Int32)), (.int (0 : Int32)), (.int (0 : Int32)), (.int (0 : Int32)), (.int (0 : Int32)), (.int (0 : Int32)), (.int (0 : Int32)), (.int (0 : Int32)), (.int (0 : Int32)), (.int (0 : Int32)), (.int (0 : Int32)), (.int (0 : Int32)), (.int (0 : Int32)), (.int (0 : Int32)), (.int (0 : Int32)), (.int (0 : Int32)), (.int (0 : Int32)), (.int (0 : Int32)), (.int (0 : Int32))] (.int (0 : Int32)) := Y8
  have sz_8 := Nat.le_trans sz_7 (Nat.le_of_eq (Wr.size W8).symm)
  refine own_go (T' := T8) (g' := (mkF m 43 #[.val (.int p0), .val (.int p1), .val (.int p2), .unset, .unset, .unset] [(.ref b1)])) st8 ?_
  refine own_go (T' := T8) (g' := (mkF m 49 #[.val (.int p0), .val (.int p1), .val (.int p2), .unset, .unset, .unset] [(.int (246 : Int32)), (.int (7 : Int32)), (.ref b1), (.ref b1)])) (fun t k => ?_) ?_
  · show Steps p.tables e below (T8.setTop (mkF m 43 #[.val (.int p0), .val (.int p1), .val (.int p2), .unset, .unset, .unset] [(.ref b1)])) t
    refine XS.dup X8.here hx rfl (hb hby at_43) rfl rfl ?_
    show Steps p.tables e below (T8.setTop (mkF m 44 #[.val (.int p0), .val (.int p1), .val (.int p2), .unset, .unset, .unset] [(.ref b1), (.ref b1)])) _
    refine XS.bipush X8.here hx rfl (hb hby at_44) ?_
    show Steps p.tables e below (T8.setTop (mkF m 46 #[.val (.int p0), .val (.int p1), .val (.int p2), .unset, .unset, .unset] [(.int (7 : Int32)), (.ref b1), (.ref b1)])) _
    refine XS.sipush X8.here hx rfl (hb hby at_46) ?_
    show Steps p.tables e below (T8.setTop (mkF m 49 #[.val (.int p0), .val (.int p1), .val (.int p2), .unset, .unset, .unset] [(.int (246 : Int32)), (.int (7 : Int32)), (.ref b1), (.ref b1)])) _
    exact k
  obtain ⟨T9, h9, L9, X9, N9, e9, W9, Y9, st9⟩ := own_stI X8 hx hZ e8 V_b1_8 (j := (7 : Int32)) (by decide) 7 rfl (by decide) N8 ga_b1 (g := (mkF m 49 #[.val (.int p0), .val (.int p1), .val (.int p2), .unset, .unset, .unset] [(.int (246 : Int32)), (.int (7 : Int32)), (.ref b1), (.ref b1)])) rfl rfl (hb hby at_49)
  have V_b1_9 : Arv Z h9 b1 k1 .int (28 : Int32) [(.int (65 : Int32)), (.int (90 : Int32)), (.int (97 : Int32)), (.int (122 : Int32)), (.int (192 : Int32)), (.int (214 : Int32)), (.int (216 : Int32)), (.int (246 : Int32)), (.int (0 : Int32)), (.int (0 : Int32)), (.int (0 : Int32)), (.int (0 : Int32)), (.int (0 : Int32)), (.int (0 : Int32)), (.int (0 : Int32)), (.int (0 : Int32)), (.int (0 : Int32)), (.int (0 : Int32)), (.int (0 : Int32)), (.int (0 : Int32)), (.int (0 : Int32)), (.int (0 : Int32)), (.int (0 : Int32)), (.int (0 : Int32)), (.int (0 : Int32)), (.int (0 : Int32)), (.int (0 : Int32)), (.int (0 : Int32))] (.int (0 : Int32)) := Y9
  have sz_9 := Nat.le_trans sz_8 (Nat.le_of_eq (Wr.size W9).symm)
  refine own_go (T' := T9) (g' := (mkF m 50 #[.val (.int p0), .val (.int p1), .val (.int p2), .unset, .unset, .unset] [(.ref b1)])) st9 ?_
  refine own_go (T' := T9) (g' := (mkF m 56 #[.val (.int p0), .val (.int p1), .val (.int p2), .unset, .unset, .unset] [(.int (248 : Int32)), (.int (8 : Int32)), (.ref b1), (.ref b1)])) (fun t k => ?_) ?_
  · show Steps p.tables e below (T9.setTop (mkF m 50 #[.val (.int p0), .val (.int p1), .val (.int p2), .unset, .unset, .unset] [(.ref b1)])) t
    refine XS.dup X9.here hx rfl (hb hby at_50) rfl rfl ?_
    show Steps p.tables e below (T9.setTop (mkF m 51 #[.val (.int p0), .val (.int p1), .val (.int p2), .unset, .unset, .unset] [(.ref b1), (.ref b1)])) _
    refine XS.bipush X9.here hx rfl (hb hby at_51) ?_
    show Steps p.tables e below (T9.setTop (mkF m 53 #[.val (.int p0), .val (.int p1), .val (.int p2), .unset, .unset, .unset] [(.int (8 : Int32)), (.ref b1), (.ref b1)])) _
    refine XS.sipush X9.here hx rfl (hb hby at_53) ?_
    show Steps p.tables e below (T9.setTop (mkF m 56 #[.val (.int p0), .val (.int p1), .val (.int p2), .unset, .unset, .unset] [(.int (248 : Int32)), (.int (8 : Int32)), (.ref b1), (.ref b1)])) _
    exact k
  obtain ⟨T10, h10, L10, X10, N10, e10, W10, Y10, st10⟩ := own_stI X9 hx hZ e9 V_b1_9 (j := (8 : Int32)) (by decide) 8 rfl (by decide) N9 ga_b1 (g := (mkF m 56 #[.val (.int p0), .val (.int p1), .val (.int p2), .unset, .unset, .unset] [(.int (248 : Int32)), (.int (8 : Int32)), (.ref b1), (.ref b1)])) rfl rfl (hb hby at_56)
  have V_b1_10 : Arv Z h10 b1 k1 .int (28 : Int32) [(.int (65 : Int32)), (.int (90 : Int32)), (.int (97 : Int32)), (.int (122 : Int32)), (.int (192 : Int32)), (.int (214 : Int32)), (.int (216 : Int32)), (.int (246 : Int32)), (.int (248 : Int32)), (.int (0 : Int32)), (.int (0 : Int32)), (.int (0 : Int32)), (.int (0 : Int32)), (.int (0 : Int32)), (.int (0 : Int32)), (.int (0 : Int32)), (.int (0 : Int32)), (.int (0 : Int32)), (.int (0 : Int32)), (.int (0 : Int32)), (.int (0 : Int32)), (.int (0 : Int32)), (.int (0 : Int32)), (.int (0 : Int32)), (.int (0 : Int32)), (.int (0 : Int32)), (.int (0 : Int32)), (.int (0 : Int32))] (.int (0 : Int32)) := Y10
  have sz_10 := Nat.le_trans sz_9 (Nat.le_of_eq (Wr.size W10).symm)
  refine own_go (T' := T10) (g' := (mkF m 57 #[.val (.int p0), .val (.int p1), .val (.int p2), .unset, .unset, .unset] [(.ref b1)])) st10 ?_
  refine own_go (T' := T10) (g' := (mkF m 63 #[.val (.int p0), .val (.int p1), .val (.int p2), .unset, .unset, .unset] [(.int (767 : Int32)), (.int (9 : Int32)), (.ref b1), (.ref b1)])) (fun t k => ?_) ?_
  · show Steps p.tables e below (T10.setTop (mkF m 57 #[.val (.int p0), .val (.int p1), .val (.int p2), .unset, .unset, .unset] [(.ref b1)])) t
    refine XS.dup X10.here hx rfl (hb hby at_57) rfl rfl ?_
    show Steps p.tables e below (T10.setTop (mkF m 58 #[.val (.int p0), .val (.int p1), .val (.int p2), .unset, .unset, .unset] [(.ref b1), (.ref b1)])) _
    refine XS.bipush X10.here hx rfl (hb hby at_58) ?_
    show Steps p.tables e below (T10.setTop (mkF m 60 #[.val (.int p0), .val (.int p1), .val (.int p2), .unset, .unset, .unset] [(.int (9 : Int32)), (.ref b1), (.ref b1)])) _
    refine XS.sipush X10.here hx rfl (hb hby at_60) ?_
    show Steps p.tables e below (T10.setTop (mkF m 63 #[.val (.int p0), .val (.int p1), .val (.int p2), .unset, .unset, .unset] [(.int (767 : Int32)), (.int (9 : Int32)), (.ref b1), (.ref b1)])) _
    exact k
  obtain ⟨T11, h11, L11, X11, N11, e11, W11, Y11, st11⟩ := own_stI X10 hx hZ e10 V_b1_10 (j := (9 : Int32)) (by decide) 9 rfl (by decide) N10 ga_b1 (g := (mkF m 63 #[.val (.int p0), .val (.int p1), .val (.int p2), .unset, .unset, .unset] [(.int (767 : Int32)), (.int (9 : Int32)), (.ref b1), (.ref b1)])) rfl rfl (hb hby at_63)
  have V_b1_11 : Arv Z h11 b1 k1 .int (28 : Int32) [(.int (65 : Int32)), (.int (90 : Int32)), (.int (97 : Int32)), (.int (122 : Int32)), (.int (192 : Int32)), (.int (214 : Int32)), (.int (216 : Int32)), (.int (246 : Int32)), (.int (248 : Int32)), (.int (767 : Int32)), (.int (0 : Int32)), (.int (0 : Int32)), (.int (0 : Int32)), (.int (0 : Int32)), (.int (0 : Int32)), (.int (0 : Int32)), (.int (0 : Int32)), (.int (0 : Int32)), (.int (0 : Int32)), (.int (0 : Int32)), (.int (0 : Int32)), (.int (0 : Int32)), (.int (0 : Int32)), (.int (0 : Int32)), (.int (0 : Int32)), (.int (0 : Int32)), (.int (0 : Int32)), (.int (0 : Int32))] (.int (0 : Int32)) := Y11
  have sz_11 := Nat.le_trans sz_10 (Nat.le_of_eq (Wr.size W11).symm)
  refine own_go (T' := T11) (g' := (mkF m 64 #[.val (.int p0), .val (.int p1), .val (.int p2), .unset, .unset, .unset] [(.ref b1)])) st11 ?_
  refine own_go (T' := T11) (g' := (mkF m 70 #[.val (.int p0), .val (.int p1), .val (.int p2), .unset, .unset, .unset] [(.int (880 : Int32)), (.int (10 : Int32)), (.ref b1), (.ref b1)])) (fun t k => ?_) ?_
  · show Steps p.tables e below (T11.setTop (mkF m 64 #[.val (.int p0), .val (.int p1), .val (.int p2), .unset, .unset, .unset] [(.ref b1)])) t
    refine XS.dup X11.here hx rfl (hb hby at_64) rfl rfl ?_
    show Steps p.tables e below (T11.setTop (mkF m 65 #[.val (.int p0), .val (.int p1), .val (.int p2), .unset, .unset, .unset] [(.ref b1), (.ref b1)])) _
    refine XS.bipush X11.here hx rfl (hb hby at_65) ?_
    show Steps p.tables e below (T11.setTop (mkF m 67 #[.val (.int p0), .val (.int p1), .val (.int p2), .unset, .unset, .unset] [(.int (10 : Int32)), (.ref b1), (.ref b1)])) _
    refine XS.sipush X11.here hx rfl (hb hby at_67) ?_
    show Steps p.tables e below (T11.setTop (mkF m 70 #[.val (.int p0), .val (.int p1), .val (.int p2), .unset, .unset, .unset] [(.int (880 : Int32)), (.int (10 : Int32)), (.ref b1), (.ref b1)])) _
    exact k
  obtain ⟨T12, h12, L12, X12, N12, e12, W12, Y12, st12⟩ := own_stI X11 hx hZ e11 V_b1_11 (j := (10 : Int32)) (by decide) 10 rfl (by decide) N11 ga_b1 (g := (mkF m 70 #[.val (.int p0), .val (.int p1), .val (.int p2), .unset, .unset, .unset] [(.int (880 : Int32)), (.int (10 : Int32)), (.ref b1), (.ref b1)])) rfl rfl (hb hby at_70)
  have V_b1_12 : Arv Z h12 b1 k1 .int (28 : Int32) [(.int (65 : Int32)), (.int (90 : Int32)), (.int (97 : Int32)), (.int (122 : Int32)), (.int (192 : Int32)), (.int (214 : Int32)), (.int (216 : Int32)), (.int (246 : Int32)), (.int (248 : Int32)), (.int (767 : Int32)), (.int (880 : Int32)), (.int (0 : Int32)), (.int (0 : Int32)), (.int (0 : Int32)), (.int (0 : Int32)), (.int (0 : Int32)), (.int (0 : Int32)), (.int (0 : Int32)), (.int (0 : Int32)), (.int (0 : Int32)), (.int (0 : Int32)), (.int (0 : Int32)), (.int (0 : Int32)), (.int (0 : Int32)), (.int (0 : Int32)), (.int (0 : Int32)), (.int (0 : Int32)), (.int (0 : Int32))] (.int (0 : Int32)) := Y12
  have sz_12 := Nat.le_trans sz_11 (Nat.le_of_eq (Wr.size W12).symm)
  refine own_go (T' := T12) (g' := (mkF m 71 #[.val (.int p0), .val (.int p1), .val (.int p2), .unset, .unset, .unset] [(.ref b1)])) st12 ?_
  refine own_go (T' := T12) (g' := (mkF m 77 #[.val (.int p0), .val (.int p1), .val (.int p2), .unset, .unset, .unset] [(.int (893 : Int32)), (.int (11 : Int32)), (.ref b1), (.ref b1)])) (fun t k => ?_) ?_
  · show Steps p.tables e below (T12.setTop (mkF m 71 #[.val (.int p0), .val (.int p1), .val (.int p2), .unset, .unset, .unset] [(.ref b1)])) t
    refine XS.dup X12.here hx rfl (hb hby at_71) rfl rfl ?_
    show Steps p.tables e below (T12.setTop (mkF m 72 #[.val (.int p0), .val (.int p1), .val (.int p2), .unset, .unset, .unset] [(.ref b1), (.ref b1)])) _
    refine XS.bipush X12.here hx rfl (hb hby at_72) ?_
    show Steps p.tables e below (T12.setTop (mkF m 74 #[.val (.int p0), .val (.int p1), .val (.int p2), .unset, .unset, .unset] [(.int (11 : Int32)), (.ref b1), (.ref b1)])) _
    refine XS.sipush X12.here hx rfl (hb hby at_74) ?_
    show Steps p.tables e below (T12.setTop (mkF m 77 #[.val (.int p0), .val (.int p1), .val (.int p2), .unset, .unset, .unset] [(.int (893 : Int32)), (.int (11 : Int32)), (.ref b1), (.ref b1)])) _
    exact k
  obtain ⟨T13, h13, L13, X13, N13, e13, W13, Y13, st13⟩ := own_stI X12 hx hZ e12 V_b1_12 (j := (11 : Int32)) (by decide) 11 rfl (by decide) N12 ga_b1 (g := (mkF m 77 #[.val (.int p0), .val (.int p1), .val (.int p2), .unset, .unset, .unset] [(.int (893 : Int32)), (.int (11 : Int32)), (.ref b1), (.ref b1)])) rfl rfl (hb hby at_77)
  have V_b1_13 : Arv Z h13 b1 k1 .int (28 : Int32) [(.int (65 : Int32)), (.int (90 : Int32)), (.int (97 : Int32)), (.int (122 : Int32)), (.int (192 : Int32)), (.int (214 : Int32)), (.int (216 : Int32)), (.int (246 : Int32)), (.int (248 : Int32)), (.int (767 : Int32)), (.int (880 : Int32)), (.int (893 : Int32)), (.int (0 : Int32)), (.int (0 : Int32)), (.int (0 : Int32)), (.int (0 : Int32)), (.int (0 : Int32)), (.int (0 : Int32)), (.int (0 : Int32)), (.int (0 : Int32)), (.int (0 : Int32)), (.int (0 : Int32)), (.int (0 : Int32)), (.int (0 : Int32)), (.int (0 : Int32)), (.int (0 : Int32)), (.int (0 : Int32)), (.int (0 : Int32))] (.int (0 : Int32)) := Y13
  have sz_13 := Nat.le_trans sz_12 (Nat.le_of_eq (Wr.size W13).symm)
  refine own_go (T' := T13) (g' := (mkF m 78 #[.val (.int p0), .val (.int p1), .val (.int p2), .unset, .unset, .unset] [(.ref b1)])) st13 ?_
  refine own_go (T' := T13) (g' := (mkF m 84 #[.val (.int p0), .val (.int p1), .val (.int p2), .unset, .unset, .unset] [(.int (895 : Int32)), (.int (12 : Int32)), (.ref b1), (.ref b1)])) (fun t k => ?_) ?_
  · show Steps p.tables e below (T13.setTop (mkF m 78 #[.val (.int p0), .val (.int p1), .val (.int p2), .unset, .unset, .unset] [(.ref b1)])) t
    refine XS.dup X13.here hx rfl (hb hby at_78) rfl rfl ?_
    show Steps p.tables e below (T13.setTop (mkF m 79 #[.val (.int p0), .val (.int p1), .val (.int p2), .unset, .unset, .unset] [(.ref b1), (.ref b1)])) _
    refine XS.bipush X13.here hx rfl (hb hby at_79) ?_
    show Steps p.tables e below (T13.setTop (mkF m 81 #[.val (.int p0), .val (.int p1), .val (.int p2), .unset, .unset, .unset] [(.int (12 : Int32)), (.ref b1), (.ref b1)])) _
    refine XS.sipush X13.here hx rfl (hb hby at_81) ?_
    show Steps p.tables e below (T13.setTop (mkF m 84 #[.val (.int p0), .val (.int p1), .val (.int p2), .unset, .unset, .unset] [(.int (895 : Int32)), (.int (12 : Int32)), (.ref b1), (.ref b1)])) _
    exact k
  obtain ⟨T14, h14, L14, X14, N14, e14, W14, Y14, st14⟩ := own_stI X13 hx hZ e13 V_b1_13 (j := (12 : Int32)) (by decide) 12 rfl (by decide) N13 ga_b1 (g := (mkF m 84 #[.val (.int p0), .val (.int p1), .val (.int p2), .unset, .unset, .unset] [(.int (895 : Int32)), (.int (12 : Int32)), (.ref b1), (.ref b1)])) rfl rfl (hb hby at_84)
  have V_b1_14 : Arv Z h14 b1 k1 .int (28 : Int32) [(.int (65 : Int32)), (.int (90 : Int32)), (.int (97 : Int32)), (.int (122 : Int32)), (.int (192 : Int32)), (.int (214 : Int32)), (.int (216 : Int32)), (.int (246 : Int32)), (.int (248 : Int32)), (.int (767 : Int32)), (.int (880 : Int32)), (.int (893 : Int32)), (.int (895 : Int32)), (.int (0 : Int32)), (.int (0 : Int32)), (.int (0 : Int32)), (.int (0 : Int32)), (.int (0 : Int32)), (.int (0 : Int32)), (.int (0 : Int32)), (.int (0 : Int32)), (.int (0 : Int32)), (.int (0 : Int32)), (.int (0 : Int32)), (.int (0 : Int32)), (.int (0 : Int32)), (.int (0 : Int32)), (.int (0 : Int32))] (.int (0 : Int32)) := Y14
  have sz_14 := Nat.le_trans sz_13 (Nat.le_of_eq (Wr.size W14).symm)
  refine own_go (T' := T14) (g' := (mkF m 85 #[.val (.int p0), .val (.int p1), .val (.int p2), .unset, .unset, .unset] [(.ref b1)])) st14 ?_
  refine own_go (T' := T14) (g' := (mkF m 91 #[.val (.int p0), .val (.int p1), .val (.int p2), .unset, .unset, .unset] [(.int (8191 : Int32)), (.int (13 : Int32)), (.ref b1), (.ref b1)])) (fun t k => ?_) ?_
  · show Steps p.tables e below (T14.setTop (mkF m 85 #[.val (.int p0), .val (.int p1), .val (.int p2), .unset, .unset, .unset] [(.ref b1)])) t
    refine XS.dup X14.here hx rfl (hb hby at_85) rfl rfl ?_
    show Steps p.tables e below (T14.setTop (mkF m 86 #[.val (.int p0), .val (.int p1), .val (.int p2), .unset, .unset, .unset] [(.ref b1), (.ref b1)])) _
    refine XS.bipush X14.here hx rfl (hb hby at_86) ?_
    show Steps p.tables e below (T14.setTop (mkF m 88 #[.val (.int p0), .val (.int p1), .val (.int p2), .unset, .unset, .unset] [(.int (13 : Int32)), (.ref b1), (.ref b1)])) _
    refine XS.sipush X14.here hx rfl (hb hby at_88) ?_
    show Steps p.tables e below (T14.setTop (mkF m 91 #[.val (.int p0), .val (.int p1), .val (.int p2), .unset, .unset, .unset] [(.int (8191 : Int32)), (.int (13 : Int32)), (.ref b1), (.ref b1)])) _
    exact k
  obtain ⟨T15, h15, L15, X15, N15, e15, W15, Y15, st15⟩ := own_stI X14 hx hZ e14 V_b1_14 (j := (13 : Int32)) (by decide) 13 rfl (by decide) N14 ga_b1 (g := (mkF m 91 #[.val (.int p0), .val (.int p1), .val (.int p2), .unset, .unset, .unset] [(.int (8191 : Int32)), (.int (13 : Int32)), (.ref b1), (.ref b1)])) rfl rfl (hb hby at_91)
  have V_b1_15 : Arv Z h15 b1 k1 .int (28 : Int32) [(.int (65 : Int32)), (.int (90 : Int32)), (.int (97 : Int32)), (.int (122 : Int32)), (.int (192 : Int32)), (.int (214 : Int32)), (.int (216 : Int32)), (.int (246 : Int32)), (.int (248 : Int32)), (.int (767 : Int32)), (.int (880 : Int32)), (.int (893 : Int32)), (.int (895 : Int32)), (.int (8191 : Int32)), (.int (0 : Int32)), (.int (0 : Int32)), (.int (0 : Int32)), (.int (0 : Int32)), (.int (0 : Int32)), (.int (0 : Int32)), (.int (0 : Int32)), (.int (0 : Int32)), (.int (0 : Int32)), (.int (0 : Int32)), (.int (0 : Int32)), (.int (0 : Int32)), (.int (0 : Int32)), (.int (0 : Int32))] (.int (0 : Int32)) := Y15
  have sz_15 := Nat.le_trans sz_14 (Nat.le_of_eq (Wr.size W15).symm)
  refine own_go (T' := T15) (g' := (mkF m 92 #[.val (.int p0), .val (.int p1), .val (.int p2), .unset, .unset, .unset] [(.ref b1)])) st15 ?_
  refine own_go (T' := T15) (g' := (mkF m 98 #[.val (.int p0), .val (.int p1), .val (.int p2), .unset, .unset, .unset] [(.int (8204 : Int32)), (.int (14 : Int32)), (.ref b1), (.ref b1)])) (fun t k => ?_) ?_
  · show Steps p.tables e below (T15.setTop (mkF m 92 #[.val (.int p0), .val (.int p1), .val (.int p2), .unset, .unset, .unset] [(.ref b1)])) t
    refine XS.dup X15.here hx rfl (hb hby at_92) rfl rfl ?_
    show Steps p.tables e below (T15.setTop (mkF m 93 #[.val (.int p0), .val (.int p1), .val (.int p2), .unset, .unset, .unset] [(.ref b1), (.ref b1)])) _
    refine XS.bipush X15.here hx rfl (hb hby at_93) ?_
    show Steps p.tables e below (T15.setTop (mkF m 95 #[.val (.int p0), .val (.int p1), .val (.int p2), .unset, .unset, .unset] [(.int (14 : Int32)), (.ref b1), (.ref b1)])) _
    refine XS.sipush X15.here hx rfl (hb hby at_95) ?_
    show Steps p.tables e below (T15.setTop (mkF m 98 #[.val (.int p0), .val (.int p1), .val (.int p2), .unset, .unset, .unset] [(.int (8204 : Int32)), (.int (14 : Int32)), (.ref b1), (.ref b1)])) _
    exact k
  obtain ⟨T16, h16, L16, X16, N16, e16, W16, Y16, st16⟩ := own_stI X15 hx hZ e15 V_b1_15 (j := (14 : Int32)) (by decide) 14 rfl (by decide) N15 ga_b1 (g := (mkF m 98 #[.val (.int p0), .val (.int p1), .val (.int p2), .unset, .unset, .unset] [(.int (8204 : Int32)), (.int (14 : Int32)), (.ref b1), (.ref b1)])) rfl rfl (hb hby at_98)
  have V_b1_16 : Arv Z h16 b1 k1 .int (28 : Int32) [(.int (65 : Int32)), (.int (90 : Int32)), (.int (97 : Int32)), (.int (122 : Int32)), (.int (192 : Int32)), (.int (214 : Int32)), (.int (216 : Int32)), (.int (246 : Int32)), (.int (248 : Int32)), (.int (767 : Int32)), (.int (880 : Int32)), (.int (893 : Int32)), (.int (895 : Int32)), (.int (8191 : Int32)), (.int (8204 : Int32)), (.int (0 : Int32)), (.int (0 : Int32)), (.int (0 : Int32)), (.int (0 : Int32)), (.int (0 : Int32)), (.int (0 : Int32)), (.int (0 : Int32)), (.int (0 : Int32)), (.int (0 : Int32)), (.int (0 : Int32)), (.int (0 : Int32)), (.int (0 : Int32)), (.int (0 : Int32))] (.int (0 : Int32)) := Y16
  have sz_16 := Nat.le_trans sz_15 (Nat.le_of_eq (Wr.size W16).symm)
  refine own_go (T' := T16) (g' := (mkF m 99 #[.val (.int p0), .val (.int p1), .val (.int p2), .unset, .unset, .unset] [(.ref b1)])) st16 ?_
  refine own_go (T' := T16) (g' := (mkF m 105 #[.val (.int p0), .val (.int p1), .val (.int p2), .unset, .unset, .unset] [(.int (8205 : Int32)), (.int (15 : Int32)), (.ref b1), (.ref b1)])) (fun t k => ?_) ?_
  · show Steps p.tables e below (T16.setTop (mkF m 99 #[.val (.int p0), .val (.int p1), .val (.int p2), .unset, .unset, .unset] [(.ref b1)])) t
    refine XS.dup X16.here hx rfl (hb hby at_99) rfl rfl ?_
    show Steps p.tables e below (T16.setTop (mkF m 100 #[.val (.int p0), .val (.int p1), .val (.int p2), .unset, .unset, .unset] [(.ref b1), (.ref b1)])) _
    refine XS.bipush X16.here hx rfl (hb hby at_100) ?_
    show Steps p.tables e below (T16.setTop (mkF m 102 #[.val (.int p0), .val (.int p1), .val (.int p2), .unset, .unset, .unset] [(.int (15 : Int32)), (.ref b1), (.ref b1)])) _
    refine XS.sipush X16.here hx rfl (hb hby at_102) ?_
    show Steps p.tables e below (T16.setTop (mkF m 105 #[.val (.int p0), .val (.int p1), .val (.int p2), .unset, .unset, .unset] [(.int (8205 : Int32)), (.int (15 : Int32)), (.ref b1), (.ref b1)])) _
    exact k
  obtain ⟨T17, h17, L17, X17, N17, e17, W17, Y17, st17⟩ := own_stI X16 hx hZ e16 V_b1_16 (j := (15 : Int32)) (by decide) 15 rfl (by decide) N16 ga_b1 (g := (mkF m 105 #[.val (.int p0), .val (.int p1), .val (.int p2), .unset, .unset, .unset] [(.int (8205 : Int32)), (.int (15 : Int32)), (.ref b1), (.ref b1)])) rfl rfl (hb hby at_105)
  have V_b1_17 : Arv Z h17 b1 k1 .int (28 : Int32) [(.int (65 : Int32)), (.int (90 : Int32)), (.int (97 : Int32)), (.int (122 : Int32)), (.int (192 : Int32)), (.int (214 : Int32)), (.int (216 : Int32)), (.int (246 : Int32)), (.int (248 : Int32)), (.int (767 : Int32)), (.int (880 : Int32)), (.int (893 : Int32)), (.int (895 : Int32)), (.int (8191 : Int32)), (.int (8204 : Int32)), (.int (8205 : Int32)), (.int (0 : Int32)), (.int (0 : Int32)), (.int (0 : Int32)), (.int (0 : Int32)), (.int (0 : Int32)), (.int (0 : Int32)), (.int (0 : Int32)), (.int (0 : Int32)), (.int (0 : Int32)), (.int (0 : Int32)), (.int (0 : Int32)), (.int (0 : Int32))] (.int (0 : Int32)) := Y17
  have sz_17 := Nat.le_trans sz_16 (Nat.le_of_eq (Wr.size W17).symm)
  refine own_go (T' := T17) (g' := (mkF m 106 #[.val (.int p0), .val (.int p1), .val (.int p2), .unset, .unset, .unset] [(.ref b1)])) st17 ?_
  refine own_go (T' := T17) (g' := (mkF m 112 #[.val (.int p0), .val (.int p1), .val (.int p2), .unset, .unset, .unset] [(.int (8304 : Int32)), (.int (16 : Int32)), (.ref b1), (.ref b1)])) (fun t k => ?_) ?_
  · show Steps p.tables e below (T17.setTop (mkF m 106 #[.val (.int p0), .val (.int p1), .val (.int p2), .unset, .unset, .unset] [(.ref b1)])) t
    refine XS.dup X17.here hx rfl (hb hby at_106) rfl rfl ?_
    show Steps p.tables e below (T17.setTop (mkF m 107 #[.val (.int p0), .val (.int p1), .val (.int p2), .unset, .unset, .unset] [(.ref b1), (.ref b1)])) _
    refine XS.bipush X17.here hx rfl (hb hby at_107) ?_
    show Steps p.tables e below (T17.setTop (mkF m 109 #[.val (.int p0), .val (.int p1), .val (.int p2), .unset, .unset, .unset] [(.int (16 : Int32)), (.ref b1), (.ref b1)])) _
    refine XS.sipush X17.here hx rfl (hb hby at_109) ?_
    show Steps p.tables e below (T17.setTop (mkF m 112 #[.val (.int p0), .val (.int p1), .val (.int p2), .unset, .unset, .unset] [(.int (8304 : Int32)), (.int (16 : Int32)), (.ref b1), (.ref b1)])) _
    exact k
  obtain ⟨T18, h18, L18, X18, N18, e18, W18, Y18, st18⟩ := own_stI X17 hx hZ e17 V_b1_17 (j := (16 : Int32)) (by decide) 16 rfl (by decide) N17 ga_b1 (g := (mkF m 112 #[.val (.int p0), .val (.int p1), .val (.int p2), .unset, .unset, .unset] [(.int (8304 : Int32)), (.int (16 : Int32)), (.ref b1), (.ref b1)])) rfl rfl (hb hby at_112)
  have V_b1_18 : Arv Z h18 b1 k1 .int (28 : Int32) [(.int (65 : Int32)), (.int (90 : Int32)), (.int (97 : Int32)), (.int (122 : Int32)), (.int (192 : Int32)), (.int (214 : Int32)), (.int (216 : Int32)), (.int (246 : Int32)), (.int (248 : Int32)), (.int (767 : Int32)), (.int (880 : Int32)), (.int (893 : Int32)), (.int (895 : Int32)), (.int (8191 : Int32)), (.int (8204 : Int32)), (.int (8205 : Int32)), (.int (8304 : Int32)), (.int (0 : Int32)), (.int (0 : Int32)), (.int (0 : Int32)), (.int (0 : Int32)), (.int (0 : Int32)), (.int (0 : Int32)), (.int (0 : Int32)), (.int (0 : Int32)), (.int (0 : Int32)), (.int (0 : Int32)), (.int (0 : Int32))] (.int (0 : Int32)) := Y18
  have sz_18 := Nat.le_trans sz_17 (Nat.le_of_eq (Wr.size W18).symm)
  refine own_go (T' := T18) (g' := (mkF m 113 #[.val (.int p0), .val (.int p1), .val (.int p2), .unset, .unset, .unset] [(.ref b1)])) st18 ?_
  refine own_go (T' := T18) (g' := (mkF m 119 #[.val (.int p0), .val (.int p1), .val (.int p2), .unset, .unset, .unset] [(.int (8591 : Int32)), (.int (17 : Int32)), (.ref b1), (.ref b1)])) (fun t k => ?_) ?_
  · show Steps p.tables e below (T18.setTop (mkF m 113 #[.val (.int p0), .val (.int p1), .val (.int p2), .unset, .unset, .unset] [(.ref b1)])) t
    refine XS.dup X18.here hx rfl (hb hby at_113) rfl rfl ?_
    show Steps p.tables e below (T18.setTop (mkF m 114 #[.val (.int p0), .val (.int p1), .val (.int p2), .unset, .unset, .unset] [(.ref b1), (.ref b1)])) _
    refine XS.bipush X18.here hx rfl (hb hby at_114) ?_
    show Steps p.tables e below (T18.setTop (mkF m 116 #[.val (.int p0), .val (.int p1), .val (.int p2), .unset, .unset, .unset] [(.int (17 : Int32)), (.ref b1), (.ref b1)])) _
    refine XS.sipush X18.here hx rfl (hb hby at_116) ?_
    show Steps p.tables e below (T18.setTop (mkF m 119 #[.val (.int p0), .val (.int p1), .val (.int p2), .unset, .unset, .unset] [(.int (8591 : Int32)), (.int (17 : Int32)), (.ref b1), (.ref b1)])) _
    exact k
  obtain ⟨T19, h19, L19, X19, N19, e19, W19, Y19, st19⟩ := own_stI X18 hx hZ e18 V_b1_18 (j := (17 : Int32)) (by decide) 17 rfl (by decide) N18 ga_b1 (g := (mkF m 119 #[.val (.int p0), .val (.int p1), .val (.int p2), .unset, .unset, .unset] [(.int (8591 : Int32)), (.int (17 : Int32)), (.ref b1), (.ref b1)])) rfl rfl (hb hby at_119)
  have V_b1_19 : Arv Z h19 b1 k1 .int (28 : Int32) [(.int (65 : Int32)), (.int (90 : Int32)), (.int (97 : Int32)), (.int (122 : Int32)), (.int (192 : Int32)), (.int (214 : Int32)), (.int (216 : Int32)), (.int (246 : Int32)), (.int (248 : Int32)), (.int (767 : Int32)), (.int (880 : Int32)), (.int (893 : Int32)), (.int (895 : Int32)), (.int (8191 : Int32)), (.int (8204 : Int32)), (.int (8205 : Int32)), (.int (8304 : Int32)), (.int (8591 : Int32)), (.int (0 : Int32)), (.int (0 : Int32)), (.int (0 : Int32)), (.int (0 : Int32)), (.int (0 : Int32)), (.int (0 : Int32)), (.int (0 : Int32)), (.int (0 : Int32)), (.int (0 : Int32)), (.int (0 : Int32))] (.int (0 : Int32)) := Y19
  have sz_19 := Nat.le_trans sz_18 (Nat.le_of_eq (Wr.size W19).symm)
  refine own_go (T' := T19) (g' := (mkF m 120 #[.val (.int p0), .val (.int p1), .val (.int p2), .unset, .unset, .unset] [(.ref b1)])) st19 ?_
  refine own_go (T' := T19) (g' := (mkF m 126 #[.val (.int p0), .val (.int p1), .val (.int p2), .unset, .unset, .unset] [(.int (11264 : Int32)), (.int (18 : Int32)), (.ref b1), (.ref b1)])) (fun t k => ?_) ?_
  · show Steps p.tables e below (T19.setTop (mkF m 120 #[.val (.int p0), .val (.int p1), .val (.int p2), .unset, .unset, .unset] [(.ref b1)])) t
    refine XS.dup X19.here hx rfl (hb hby at_120) rfl rfl ?_
    show Steps p.tables e below (T19.setTop (mkF m 121 #[.val (.int p0), .val (.int p1), .val (.int p2), .unset, .unset, .unset] [(.ref b1), (.ref b1)])) _
    refine XS.bipush X19.here hx rfl (hb hby at_121) ?_
    show Steps p.tables e below (T19.setTop (mkF m 123 #[.val (.int p0), .val (.int p1), .val (.int p2), .unset, .unset, .unset] [(.int (18 : Int32)), (.ref b1), (.ref b1)])) _
    refine XS.sipush X19.here hx rfl (hb hby at_123) ?_
    show Steps p.tables e below (T19.setTop (mkF m 126 #[.val (.int p0), .val (.int p1), .val (.int p2), .unset, .unset, .unset] [(.int (11264 : Int32)), (.int (18 : Int32)), (.ref b1), (.ref b1)])) _
    exact k
  obtain ⟨T20, h20, L20, X20, N20, e20, W20, Y20, st20⟩ := own_stI X19 hx hZ e19 V_b1_19 (j := (18 : Int32)) (by decide) 18 rfl (by decide) N19 ga_b1 (g := (mkF m 126 #[.val (.int p0), .val (.int p1), .val (.int p2), .unset, .unset, .unset] [(.int (11264 : Int32)), (.int (18 : Int32)), (.ref b1), (.ref b1)])) rfl rfl (hb hby at_126)
  have V_b1_20 : Arv Z h20 b1 k1 .int (28 : Int32) [(.int (65 : Int32)), (.int (90 : Int32)), (.int (97 : Int32)), (.int (122 : Int32)), (.int (192 : Int32)), (.int (214 : Int32)), (.int (216 : Int32)), (.int (246 : Int32)), (.int (248 : Int32)), (.int (767 : Int32)), (.int (880 : Int32)), (.int (893 : Int32)), (.int (895 : Int32)), (.int (8191 : Int32)), (.int (8204 : Int32)), (.int (8205 : Int32)), (.int (8304 : Int32)), (.int (8591 : Int32)), (.int (11264 : Int32)), (.int (0 : Int32)), (.int (0 : Int32)), (.int (0 : Int32)), (.int (0 : Int32)), (.int (0 : Int32)), (.int (0 : Int32)), (.int (0 : Int32)), (.int (0 : Int32)), (.int (0 : Int32))] (.int (0 : Int32)) := Y20
  have sz_20 := Nat.le_trans sz_19 (Nat.le_of_eq (Wr.size W20).symm)
  refine own_go (T' := T20) (g' := (mkF m 127 #[.val (.int p0), .val (.int p1), .val (.int p2), .unset, .unset, .unset] [(.ref b1)])) st20 ?_
  refine own_go (T' := T20) (g' := (mkF m 133 #[.val (.int p0), .val (.int p1), .val (.int p2), .unset, .unset, .unset] [(.int (12271 : Int32)), (.int (19 : Int32)), (.ref b1), (.ref b1)])) (fun t k => ?_) ?_
  · show Steps p.tables e below (T20.setTop (mkF m 127 #[.val (.int p0), .val (.int p1), .val (.int p2), .unset, .unset, .unset] [(.ref b1)])) t
    refine XS.dup X20.here hx rfl (hb hby at_127) rfl rfl ?_
    show Steps p.tables e below (T20.setTop (mkF m 128 #[.val (.int p0), .val (.int p1), .val (.int p2), .unset, .unset, .unset] [(.ref b1), (.ref b1)])) _
    refine XS.bipush X20.here hx rfl (hb hby at_128) ?_
    show Steps p.tables e below (T20.setTop (mkF m 130 #[.val (.int p0), .val (.int p1), .val (.int p2), .unset, .unset, .unset] [(.int (19 : Int32)), (.ref b1), (.ref b1)])) _
    refine XS.sipush X20.here hx rfl (hb hby at_130) ?_
    show Steps p.tables e below (T20.setTop (mkF m 133 #[.val (.int p0), .val (.int p1), .val (.int p2), .unset, .unset, .unset] [(.int (12271 : Int32)), (.int (19 : Int32)), (.ref b1), (.ref b1)])) _
    exact k
  obtain ⟨T21, h21, L21, X21, N21, e21, W21, Y21, st21⟩ := own_stI X20 hx hZ e20 V_b1_20 (j := (19 : Int32)) (by decide) 19 rfl (by decide) N20 ga_b1 (g := (mkF m 133 #[.val (.int p0), .val (.int p1), .val (.int p2), .unset, .unset, .unset] [(.int (12271 : Int32)), (.int (19 : Int32)), (.ref b1), (.ref b1)])) rfl rfl (hb hby at_133)
  have V_b1_21 : Arv Z h21 b1 k1 .int (28 : Int32) [(.int (65 : Int32)), (.int (90 : Int32)), (.int (97 : Int32)), (.int (122 : Int32)), (.int (192 : Int32)), (.int (214 : Int32)), (.int (216 : Int32)), (.int (246 : Int32)), (.int (248 : Int32)), (.int (767 : Int32)), (.int (880 : Int32)), (.int (893 : Int32)), (.int (895 : Int32)), (.int (8191 : Int32)), (.int (8204 : Int32)), (.int (8205 : Int32)), (.int (8304 : Int32)), (.int (8591 : Int32)), (.int (11264 : Int32)), (.int (12271 : Int32)), (.int (0 : Int32)), (.int (0 : Int32)), (.int (0 : Int32)), (.int (0 : Int32)), (.int (0 : Int32)), (.int (0 : Int32)), (.int (0 : Int32)), (.int (0 : Int32))] (.int (0 : Int32)) := Y21
  have sz_21 := Nat.le_trans sz_20 (Nat.le_of_eq (Wr.size W21).symm)
  refine own_go (T' := T21) (g' := (mkF m 134 #[.val (.int p0), .val (.int p1), .val (.int p2), .unset, .unset, .unset] [(.ref b1)])) st21 ?_
  refine own_go (T' := T21) (g' := (mkF m 140 #[.val (.int p0), .val (.int p1), .val (.int p2), .unset, .unset, .unset] [(.int (12289 : Int32)), (.int (20 : Int32)), (.ref b1), (.ref b1)])) (fun t k => ?_) ?_
  · show Steps p.tables e below (T21.setTop (mkF m 134 #[.val (.int p0), .val (.int p1), .val (.int p2), .unset, .unset, .unset] [(.ref b1)])) t
    refine XS.dup X21.here hx rfl (hb hby at_134) rfl rfl ?_
    show Steps p.tables e below (T21.setTop (mkF m 135 #[.val (.int p0), .val (.int p1), .val (.int p2), .unset, .unset, .unset] [(.ref b1), (.ref b1)])) _
    refine XS.bipush X21.here hx rfl (hb hby at_135) ?_
    show Steps p.tables e below (T21.setTop (mkF m 137 #[.val (.int p0), .val (.int p1), .val (.int p2), .unset, .unset, .unset] [(.int (20 : Int32)), (.ref b1), (.ref b1)])) _
    refine XS.sipush X21.here hx rfl (hb hby at_137) ?_
    show Steps p.tables e below (T21.setTop (mkF m 140 #[.val (.int p0), .val (.int p1), .val (.int p2), .unset, .unset, .unset] [(.int (12289 : Int32)), (.int (20 : Int32)), (.ref b1), (.ref b1)])) _
    exact k
  obtain ⟨T22, h22, L22, X22, N22, e22, W22, Y22, st22⟩ := own_stI X21 hx hZ e21 V_b1_21 (j := (20 : Int32)) (by decide) 20 rfl (by decide) N21 ga_b1 (g := (mkF m 140 #[.val (.int p0), .val (.int p1), .val (.int p2), .unset, .unset, .unset] [(.int (12289 : Int32)), (.int (20 : Int32)), (.ref b1), (.ref b1)])) rfl rfl (hb hby at_140)
  have V_b1_22 : Arv Z h22 b1 k1 .int (28 : Int32) [(.int (65 : Int32)), (.int (90 : Int32)), (.int (97 : Int32)), (.int (122 : Int32)), (.int (192 : Int32)), (.int (214 : Int32)), (.int (216 : Int32)), (.int (246 : Int32)), (.int (248 : Int32)), (.int (767 : Int32)), (.int (880 : Int32)), (.int (893 : Int32)), (.int (895 : Int32)), (.int (8191 : Int32)), (.int (8204 : Int32)), (.int (8205 : Int32)), (.int (8304 : Int32)), (.int (8591 : Int32)), (.int (11264 : Int32)), (.int (12271 : Int32)), (.int (12289 : Int32)), (.int (0 : Int32)), (.int (0 : Int32)), (.int (0 : Int32)), (.int (0 : Int32)), (.int (0 : Int32)), (.int (0 : Int32)), (.int (0 : Int32))] (.int (0 : Int32)) := Y22
  have sz_22 := Nat.le_trans sz_21 (Nat.le_of_eq (Wr.size W22).symm)
  refine own_go (T' := T22) (g' := (mkF m 141 #[.val (.int p0), .val (.int p1), .val (.int p2), .unset, .unset, .unset] [(.ref b1)])) st22 ?_
  refine own_go (T' := T22) (g' := (mkF m 146 #[.val (.int p0), .val (.int p1), .val (.int p2), .unset, .unset, .unset] [(.int (55295 : Int32)), (.int (21 : Int32)), (.ref b1), (.ref b1)])) (fun t k => ?_) ?_
  · show Steps p.tables e below (T22.setTop (mkF m 141 #[.val (.int p0), .val (.int p1), .val (.int p2), .unset, .unset, .unset] [(.ref b1)])) t
    refine XS.dup X22.here hx rfl (hb hby at_141) rfl rfl ?_
    show Steps p.tables e below (T22.setTop (mkF m 142 #[.val (.int p0), .val (.int p1), .val (.int p2), .unset, .unset, .unset] [(.ref b1), (.ref b1)])) _
    refine XS.bipush X22.here hx rfl (hb hby at_142) ?_
    show Steps p.tables e below (T22.setTop (mkF m 144 #[.val (.int p0), .val (.int p1), .val (.int p2), .unset, .unset, .unset] [(.int (21 : Int32)), (.ref b1), (.ref b1)])) _
    refine X22.ldcInt hx hown (mvT hZ (hw _ (List.mem_of_getElem? (i := 1) rfl))) (g := (mkF m 144 #[.val (.int p0), .val (.int p1), .val (.int p2), .unset, .unset, .unset] [(.int (21 : Int32)), (.ref b1), (.ref b1)])) rfl (hb hby at_144) _ ?_
    show Steps p.tables e below (T22.setTop (mkF m 146 #[.val (.int p0), .val (.int p1), .val (.int p2), .unset, .unset, .unset] [(.int (55295 : Int32)), (.int (21 : Int32)), (.ref b1), (.ref b1)])) _
    exact k
  obtain ⟨T23, h23, L23, X23, N23, e23, W23, Y23, st23⟩ := own_stI X22 hx hZ e22 V_b1_22 (j := (21 : Int32)) (by decide) 21 rfl (by decide) N22 ga_b1 (g := (mkF m 146 #[.val (.int p0), .val (.int p1), .val (.int p2), .unset, .unset, .unset] [(.int (55295 : Int32)), (.int (21 : Int32)), (.ref b1), (.ref b1)])) rfl rfl (hb hby at_146)
  have V_b1_23 : Arv Z h23 b1 k1 .int (28 : Int32) [(.int (65 : Int32)), (.int (90 : Int32)), (.int (97 : Int32)), (.int (122 : Int32)), (.int (192 : Int32)), (.int (214 : Int32)), (.int (216 : Int32)), (.int (246 : Int32)), (.int (248 : Int32)), (.int (767 : Int32)), (.int (880 : Int32)), (.int (893 : Int32)), (.int (895 : Int32)), (.int (8191 : Int32)), (.int (8204 : Int32)), (.int (8205 : Int32)), (.int (8304 : Int32)), (.int (8591 : Int32)), (.int (11264 : Int32)), (.int (12271 : Int32)), (.int (12289 : Int32)), (.int (55295 : Int32)), (.int (0 : Int32)), (.int (0 : Int32)), (.int (0 : Int32)), (.int (0 : Int32)), (.int (0 : Int32)), (.int (0 : Int32))] (.int (0 : Int32)) := Y23
  have sz_23 := Nat.le_trans sz_22 (Nat.le_of_eq (Wr.size W23).symm)
  refine own_go (T' := T23) (g' := (mkF m 147 #[.val (.int p0), .val (.int p1), .val (.int p2), .unset, .unset, .unset] [(.ref b1)])) st23 ?_
  refine own_go (T' := T23) (g' := (mkF m 152 #[.val (.int p0), .val (.int p1), .val (.int p2), .unset, .unset, .unset] [(.int (63744 : Int32)), (.int (22 : Int32)), (.ref b1), (.ref b1)])) (fun t k => ?_) ?_
  · show Steps p.tables e below (T23.setTop (mkF m 147 #[.val (.int p0), .val (.int p1), .val (.int p2), .unset, .unset, .unset] [(.ref b1)])) t
    refine XS.dup X23.here hx rfl (hb hby at_147) rfl rfl ?_
    show Steps p.tables e below (T23.setTop (mkF m 148 #[.val (.int p0), .val (.int p1), .val (.int p2), .unset, .unset, .unset] [(.ref b1), (.ref b1)])) _
    refine XS.bipush X23.here hx rfl (hb hby at_148) ?_
    show Steps p.tables e below (T23.setTop (mkF m 150 #[.val (.int p0), .val (.int p1), .val (.int p2), .unset, .unset, .unset] [(.int (22 : Int32)), (.ref b1), (.ref b1)])) _
    refine X23.ldcInt hx hown (mvT hZ (hw _ (List.mem_of_getElem? (i := 2) rfl))) (g := (mkF m 150 #[.val (.int p0), .val (.int p1), .val (.int p2), .unset, .unset, .unset] [(.int (22 : Int32)), (.ref b1), (.ref b1)])) rfl (hb hby at_150) _ ?_
    show Steps p.tables e below (T23.setTop (mkF m 152 #[.val (.int p0), .val (.int p1), .val (.int p2), .unset, .unset, .unset] [(.int (63744 : Int32)), (.int (22 : Int32)), (.ref b1), (.ref b1)])) _
    exact k
  obtain ⟨T24, h24, L24, X24, N24, e24, W24, Y24, st24⟩ := own_stI X23 hx hZ e23 V_b1_23 (j := (22 : Int32)) (by decide) 22 rfl (by decide) N23 ga_b1 (g := (mkF m 152 #[.val (.int p0), .val (.int p1), .val (.int p2), .unset, .unset, .unset] [(.int (63744 : Int32)), (.int (22 : Int32)), (.ref b1), (.ref b1)])) rfl rfl (hb hby at_152)
  have V_b1_24 : Arv Z h24 b1 k1 .int (28 : Int32) [(.int (65 : Int32)), (.int (90 : Int32)), (.int (97 : Int32)), (.int (122 : Int32)), (.int (192 : Int32)), (.int (214 : Int32)), (.int (216 : Int32)), (.int (246 : Int32)), (.int (248 : Int32)), (.int (767 : Int32)), (.int (880 : Int32)), (.int (893 : Int32)), (.int (895 : Int32)), (.int (8191 : Int32)), (.int (8204 : Int32)), (.int (8205 : Int32)), (.int (8304 : Int32)), (.int (8591 : Int32)), (.int (11264 : Int32)), (.int (12271 : Int32)), (.int (12289 : Int32)), (.int (55295 : Int32)), (.int (63744 : Int32)), (.int (0 : Int32)), (.int (0 : Int32)), (.int (0 : Int32)), (.int (0 : Int32)), (.int (0 : Int32))] (.int (0 : Int32)) := Y24
  have sz_24 := Nat.le_trans sz_23 (Nat.le_of_eq (Wr.size W24).symm)
  refine own_go (T' := T24) (g' := (mkF m 153 #[.val (.int p0), .val (.int p1), .val (.int p2), .unset, .unset, .unset] [(.ref b1)])) st24 ?_
  refine own_go (T' := T24) (g' := (mkF m 158 #[.val (.int p0), .val (.int p1), .val (.int p2), .unset, .unset, .unset] [(.int (64975 : Int32)), (.int (23 : Int32)), (.ref b1), (.ref b1)])) (fun t k => ?_) ?_
  · show Steps p.tables e below (T24.setTop (mkF m 153 #[.val (.int p0), .val (.int p1), .val (.int p2), .unset, .unset, .unset] [(.ref b1)])) t
    refine XS.dup X24.here hx rfl (hb hby at_153) rfl rfl ?_
    show Steps p.tables e below (T24.setTop (mkF m 154 #[.val (.int p0), .val (.int p1), .val (.int p2), .unset, .unset, .unset] [(.ref b1), (.ref b1)])) _
    refine XS.bipush X24.here hx rfl (hb hby at_154) ?_
    show Steps p.tables e below (T24.setTop (mkF m 156 #[.val (.int p0), .val (.int p1), .val (.int p2), .unset, .unset, .unset] [(.int (23 : Int32)), (.ref b1), (.ref b1)])) _
    refine X24.ldcInt hx hown (mvT hZ (hw _ (List.mem_of_getElem? (i := 3) rfl))) (g := (mkF m 156 #[.val (.int p0), .val (.int p1), .val (.int p2), .unset, .unset, .unset] [(.int (23 : Int32)), (.ref b1), (.ref b1)])) rfl (hb hby at_156) _ ?_
    show Steps p.tables e below (T24.setTop (mkF m 158 #[.val (.int p0), .val (.int p1), .val (.int p2), .unset, .unset, .unset] [(.int (64975 : Int32)), (.int (23 : Int32)), (.ref b1), (.ref b1)])) _
    exact k
  obtain ⟨T25, h25, L25, X25, N25, e25, W25, Y25, st25⟩ := own_stI X24 hx hZ e24 V_b1_24 (j := (23 : Int32)) (by decide) 23 rfl (by decide) N24 ga_b1 (g := (mkF m 158 #[.val (.int p0), .val (.int p1), .val (.int p2), .unset, .unset, .unset] [(.int (64975 : Int32)), (.int (23 : Int32)), (.ref b1), (.ref b1)])) rfl rfl (hb hby at_158)
  have V_b1_25 : Arv Z h25 b1 k1 .int (28 : Int32) [(.int (65 : Int32)), (.int (90 : Int32)), (.int (97 : Int32)), (.int (122 : Int32)), (.int (192 : Int32)), (.int (214 : Int32)), (.int (216 : Int32)), (.int (246 : Int32)), (.int (248 : Int32)), (.int (767 : Int32)), (.int (880 : Int32)), (.int (893 : Int32)), (.int (895 : Int32)), (.int (8191 : Int32)), (.int (8204 : Int32)), (.int (8205 : Int32)), (.int (8304 : Int32)), (.int (8591 : Int32)), (.int (11264 : Int32)), (.int (12271 : Int32)), (.int (12289 : Int32)), (.int (55295 : Int32)), (.int (63744 : Int32)), (.int (64975 : Int32)), (.int (0 : Int32)), (.int (0 : Int32)), (.int (0 : Int32)), (.int (0 : Int32))] (.int (0 : Int32)) := Y25
  have sz_25 := Nat.le_trans sz_24 (Nat.le_of_eq (Wr.size W25).symm)
  refine own_go (T' := T25) (g' := (mkF m 159 #[.val (.int p0), .val (.int p1), .val (.int p2), .unset, .unset, .unset] [(.ref b1)])) st25 ?_
  refine own_go (T' := T25) (g' := (mkF m 164 #[.val (.int p0), .val (.int p1), .val (.int p2), .unset, .unset, .unset] [(.int (65008 : Int32)), (.int (24 : Int32)), (.ref b1), (.ref b1)])) (fun t k => ?_) ?_
  · show Steps p.tables e below (T25.setTop (mkF m 159 #[.val (.int p0), .val (.int p1), .val (.int p2), .unset, .unset, .unset] [(.ref b1)])) t
    refine XS.dup X25.here hx rfl (hb hby at_159) rfl rfl ?_
    show Steps p.tables e below (T25.setTop (mkF m 160 #[.val (.int p0), .val (.int p1), .val (.int p2), .unset, .unset, .unset] [(.ref b1), (.ref b1)])) _
    refine XS.bipush X25.here hx rfl (hb hby at_160) ?_
    show Steps p.tables e below (T25.setTop (mkF m 162 #[.val (.int p0), .val (.int p1), .val (.int p2), .unset, .unset, .unset] [(.int (24 : Int32)), (.ref b1), (.ref b1)])) _
    refine X25.ldcInt hx hown (mvT hZ (hw _ (List.mem_of_getElem? (i := 4) rfl))) (g := (mkF m 162 #[.val (.int p0), .val (.int p1), .val (.int p2), .unset, .unset, .unset] [(.int (24 : Int32)), (.ref b1), (.ref b1)])) rfl (hb hby at_162) _ ?_
    show Steps p.tables e below (T25.setTop (mkF m 164 #[.val (.int p0), .val (.int p1), .val (.int p2), .unset, .unset, .unset] [(.int (65008 : Int32)), (.int (24 : Int32)), (.ref b1), (.ref b1)])) _
    exact k
  obtain ⟨T26, h26, L26, X26, N26, e26, W26, Y26, st26⟩ := own_stI X25 hx hZ e25 V_b1_25 (j := (24 : Int32)) (by decide) 24 rfl (by decide) N25 ga_b1 (g := (mkF m 164 #[.val (.int p0), .val (.int p1), .val (.int p2), .unset, .unset, .unset] [(.int (65008 : Int32)), (.int (24 : Int32)), (.ref b1), (.ref b1)])) rfl rfl (hb hby at_164)
  have V_b1_26 : Arv Z h26 b1 k1 .int (28 : Int32) [(.int (65 : Int32)), (.int (90 : Int32)), (.int (97 : Int32)), (.int (122 : Int32)), (.int (192 : Int32)), (.int (214 : Int32)), (.int (216 : Int32)), (.int (246 : Int32)), (.int (248 : Int32)), (.int (767 : Int32)), (.int (880 : Int32)), (.int (893 : Int32)), (.int (895 : Int32)), (.int (8191 : Int32)), (.int (8204 : Int32)), (.int (8205 : Int32)), (.int (8304 : Int32)), (.int (8591 : Int32)), (.int (11264 : Int32)), (.int (12271 : Int32)), (.int (12289 : Int32)), (.int (55295 : Int32)), (.int (63744 : Int32)), (.int (64975 : Int32)), (.int (65008 : Int32)), (.int (0 : Int32)), (.int (0 : Int32)), (.int (0 : Int32))] (.int (0 : Int32)) := Y26
  have sz_26 := Nat.le_trans sz_25 (Nat.le_of_eq (Wr.size W26).symm)
  refine own_go (T' := T26) (g' := (mkF m 165 #[.val (.int p0), .val (.int p1), .val (.int p2), .unset, .unset, .unset] [(.ref b1)])) st26 ?_
  refine own_go (T' := T26) (g' := (mkF m 170 #[.val (.int p0), .val (.int p1), .val (.int p2), .unset, .unset, .unset] [(.int (65533 : Int32)), (.int (25 : Int32)), (.ref b1), (.ref b1)])) (fun t k => ?_) ?_
  · show Steps p.tables e below (T26.setTop (mkF m 165 #[.val (.int p0), .val (.int p1), .val (.int p2), .unset, .unset, .unset] [(.ref b1)])) t
    refine XS.dup X26.here hx rfl (hb hby at_165) rfl rfl ?_
    show Steps p.tables e below (T26.setTop (mkF m 166 #[.val (.int p0), .val (.int p1), .val (.int p2), .unset, .unset, .unset] [(.ref b1), (.ref b1)])) _
    refine XS.bipush X26.here hx rfl (hb hby at_166) ?_
    show Steps p.tables e below (T26.setTop (mkF m 168 #[.val (.int p0), .val (.int p1), .val (.int p2), .unset, .unset, .unset] [(.int (25 : Int32)), (.ref b1), (.ref b1)])) _
    refine X26.ldcInt hx hown (mvT hZ (hw _ (List.mem_of_getElem? (i := 5) rfl))) (g := (mkF m 168 #[.val (.int p0), .val (.int p1), .val (.int p2), .unset, .unset, .unset] [(.int (25 : Int32)), (.ref b1), (.ref b1)])) rfl (hb hby at_168) _ ?_
    show Steps p.tables e below (T26.setTop (mkF m 170 #[.val (.int p0), .val (.int p1), .val (.int p2), .unset, .unset, .unset] [(.int (65533 : Int32)), (.int (25 : Int32)), (.ref b1), (.ref b1)])) _
    exact k
  obtain ⟨T27, h27, L27, X27, N27, e27, W27, Y27, st27⟩ := own_stI X26 hx hZ e26 V_b1_26 (j := (25 : Int32)) (by decide) 25 rfl (by decide) N26 ga_b1 (g := (mkF m 170 #[.val (.int p0), .val (.int p1), .val (.int p2), .unset, .unset, .unset] [(.int (65533 : Int32)), (.int (25 : Int32)), (.ref b1), (.ref b1)])) rfl rfl (hb hby at_170)
  have V_b1_27 : Arv Z h27 b1 k1 .int (28 : Int32) [(.int (65 : Int32)), (.int (90 : Int32)), (.int (97 : Int32)), (.int (122 : Int32)), (.int (192 : Int32)), (.int (214 : Int32)), (.int (216 : Int32)), (.int (246 : Int32)), (.int (248 : Int32)), (.int (767 : Int32)), (.int (880 : Int32)), (.int (893 : Int32)), (.int (895 : Int32)), (.int (8191 : Int32)), (.int (8204 : Int32)), (.int (8205 : Int32)), (.int (8304 : Int32)), (.int (8591 : Int32)), (.int (11264 : Int32)), (.int (12271 : Int32)), (.int (12289 : Int32)), (.int (55295 : Int32)), (.int (63744 : Int32)), (.int (64975 : Int32)), (.int (65008 : Int32)), (.int (65533 : Int32)), (.int (0 : Int32)), (.int (0 : Int32))] (.int (0 : Int32)) := Y27
  have sz_27 := Nat.le_trans sz_26 (Nat.le_of_eq (Wr.size W27).symm)
  refine own_go (T' := T27) (g' := (mkF m 171 #[.val (.int p0), .val (.int p1), .val (.int p2), .unset, .unset, .unset] [(.ref b1)])) st27 ?_
  refine own_go (T' := T27) (g' := (mkF m 176 #[.val (.int p0), .val (.int p1), .val (.int p2), .unset, .unset, .unset] [(.int (65536 : Int32)), (.int (26 : Int32)), (.ref b1), (.ref b1)])) (fun t k => ?_) ?_
  · show Steps p.tables e below (T27.setTop (mkF m 171 #[.val (.int p0), .val (.int p1), .val (.int p2), .unset, .unset, .unset] [(.ref b1)])) t
    refine XS.dup X27.here hx rfl (hb hby at_171) rfl rfl ?_
    show Steps p.tables e below (T27.setTop (mkF m 172 #[.val (.int p0), .val (.int p1), .val (.int p2), .unset, .unset, .unset] [(.ref b1), (.ref b1)])) _
    refine XS.bipush X27.here hx rfl (hb hby at_172) ?_
    show Steps p.tables e below (T27.setTop (mkF m 174 #[.val (.int p0), .val (.int p1), .val (.int p2), .unset, .unset, .unset] [(.int (26 : Int32)), (.ref b1), (.ref b1)])) _
    refine X27.ldcInt hx hown (mvT hZ (hw _ (List.mem_of_getElem? (i := 6) rfl))) (g := (mkF m 174 #[.val (.int p0), .val (.int p1), .val (.int p2), .unset, .unset, .unset] [(.int (26 : Int32)), (.ref b1), (.ref b1)])) rfl (hb hby at_174) _ ?_
    show Steps p.tables e below (T27.setTop (mkF m 176 #[.val (.int p0), .val (.int p1), .val (.int p2), .unset, .unset, .unset] [(.int (65536 : Int32)), (.int (26 : Int32)), (.ref b1), (.ref b1)])) _
    exact k
  obtain ⟨T28, h28, L28, X28, N28, e28, W28, Y28, st28⟩ := own_stI X27 hx hZ e27 V_b1_27 (j := (26 : Int32)) (by decide) 26 rfl (by decide) N27 ga_b1 (g := (mkF m 176 #[.val (.int p0), .val (.int p1), .val (.int p2), .unset, .unset, .unset] [(.int (65536 : Int32)), (.int (26 : Int32)), (.ref b1), (.ref b1)])) rfl rfl (hb hby at_176)
  have V_b1_28 : Arv Z h28 b1 k1 .int (28 : Int32) [(.int (65 : Int32)), (.int (90 : Int32)), (.int (97 : Int32)), (.int (122 : Int32)), (.int (192 : Int32)), (.int (214 : Int32)), (.int (216 : Int32)), (.int (246 : Int32)), (.int (248 : Int32)), (.int (767 : Int32)), (.int (880 : Int32)), (.int (893 : Int32)), (.int (895 : Int32)), (.int (8191 : Int32)), (.int (8204 : Int32)), (.int (8205 : Int32)), (.int (8304 : Int32)), (.int (8591 : Int32)), (.int (11264 : Int32)), (.int (12271 : Int32)), (.int (12289 : Int32)), (.int (55295 : Int32)), (.int (63744 : Int32)), (.int (64975 : Int32)), (.int (65008 : Int32)), (.int (65533 : Int32)), (.int (65536 : Int32)), (.int (0 : Int32))] (.int (0 : Int32)) := Y28
  have sz_28 := Nat.le_trans sz_27 (Nat.le_of_eq (Wr.size W28).symm)
  refine own_go (T' := T28) (g' := (mkF m 177 #[.val (.int p0), .val (.int p1), .val (.int p2), .unset, .unset, .unset] [(.ref b1)])) st28 ?_
  refine own_go (T' := T28) (g' := (mkF m 182 #[.val (.int p0), .val (.int p1), .val (.int p2), .unset, .unset, .unset] [(.int (983039 : Int32)), (.int (27 : Int32)), (.ref b1), (.ref b1)])) (fun t k => ?_) ?_
  · show Steps p.tables e below (T28.setTop (mkF m 177 #[.val (.int p0), .val (.int p1), .val (.int p2), .unset, .unset, .unset] [(.ref b1)])) t
    refine XS.dup X28.here hx rfl (hb hby at_177) rfl rfl ?_
    show Steps p.tables e below (T28.setTop (mkF m 178 #[.val (.int p0), .val (.int p1), .val (.int p2), .unset, .unset, .unset] [(.ref b1), (.ref b1)])) _
    refine XS.bipush X28.here hx rfl (hb hby at_178) ?_
    show Steps p.tables e below (T28.setTop (mkF m 180 #[.val (.int p0), .val (.int p1), .val (.int p2), .unset, .unset, .unset] [(.int (27 : Int32)), (.ref b1), (.ref b1)])) _
    refine X28.ldcInt hx hown (mvT hZ (hw _ (List.mem_of_getElem? (i := 7) rfl))) (g := (mkF m 180 #[.val (.int p0), .val (.int p1), .val (.int p2), .unset, .unset, .unset] [(.int (27 : Int32)), (.ref b1), (.ref b1)])) rfl (hb hby at_180) _ ?_
    show Steps p.tables e below (T28.setTop (mkF m 182 #[.val (.int p0), .val (.int p1), .val (.int p2), .unset, .unset, .unset] [(.int (983039 : Int32)), (.int (27 : Int32)), (.ref b1), (.ref b1)])) _
    exact k
  obtain ⟨T29, h29, L29, X29, N29, e29, W29, Y29, st29⟩ := own_stI X28 hx hZ e28 V_b1_28 (j := (27 : Int32)) (by decide) 27 rfl (by decide) N28 ga_b1 (g := (mkF m 182 #[.val (.int p0), .val (.int p1), .val (.int p2), .unset, .unset, .unset] [(.int (983039 : Int32)), (.int (27 : Int32)), (.ref b1), (.ref b1)])) rfl rfl (hb hby at_182)
  have V_b1_29 : Arv Z h29 b1 k1 .int (28 : Int32) [(.int (65 : Int32)), (.int (90 : Int32)), (.int (97 : Int32)), (.int (122 : Int32)), (.int (192 : Int32)), (.int (214 : Int32)), (.int (216 : Int32)), (.int (246 : Int32)), (.int (248 : Int32)), (.int (767 : Int32)), (.int (880 : Int32)), (.int (893 : Int32)), (.int (895 : Int32)), (.int (8191 : Int32)), (.int (8204 : Int32)), (.int (8205 : Int32)), (.int (8304 : Int32)), (.int (8591 : Int32)), (.int (11264 : Int32)), (.int (12271 : Int32)), (.int (12289 : Int32)), (.int (55295 : Int32)), (.int (63744 : Int32)), (.int (64975 : Int32)), (.int (65008 : Int32)), (.int (65533 : Int32)), (.int (65536 : Int32)), (.int (983039 : Int32))] (.int (0 : Int32)) := Y29
  have sz_29 := Nat.le_trans sz_28 (Nat.le_of_eq (Wr.size W29).symm)
  refine own_go (T' := T29) (g' := (mkF m 183 #[.val (.int p0), .val (.int p1), .val (.int p2), .unset, .unset, .unset] [(.ref b1)])) st29 ?_
  refine own_go (T' := T29) (g' := (mkF m 190 #[.val (.int p0), .val (.int p1), .val (.int p2), .val (.ref b1), .val (.int p0), .unset] [(.int (p2 &&& (1 : Int32)))])) (fun t k => ?_) ?_
  · show Steps p.tables e below (T29.setTop (mkF m 183 #[.val (.int p0), .val (.int p1), .val (.int p2), .unset, .unset, .unset] [(.ref b1)])) t
    refine XS.astoreN X29.here hx rfl (hb hby at_183) rfl rfl (l' := #[.val (.int p0), .val (.int p1), .val (.int p2), .val (.ref b1), .unset, .unset]) rfl ?_
    show Steps p.tables e below (T29.setTop (mkF m 184 #[.val (.int p0), .val (.int p1), .val (.int p2), .val (.ref b1), .unset, .unset] [])) _
    refine XS.iloadN X29.here hx rfl (hb hby at_184) rfl ?_
    show Steps p.tables e below (T29.setTop (mkF m 185 #[.val (.int p0), .val (.int p1), .val (.int p2), .val (.ref b1), .unset, .unset] [(.int p0)])) _
    refine XS.istore X29.here hx rfl (hb hby at_185) rfl (l' := #[.val (.int p0), .val (.int p1), .val (.int p2), .val (.ref b1), .val (.int p0), .unset]) rfl ?_
    show Steps p.tables e below (T29.setTop (mkF m 187 #[.val (.int p0), .val (.int p1), .val (.int p2), .val (.ref b1), .val (.int p0), .unset] [])) _
    refine XS.iloadN X29.here hx rfl (hb hby at_187) rfl ?_
    show Steps p.tables e below (T29.setTop (mkF m 188 #[.val (.int p0), .val (.int p1), .val (.int p2), .val (.ref b1), .val (.int p0), .unset] [(.int p2)])) _
    refine XS.iconst X29.here hx rfl (hb hby at_188) ?_
    show Steps p.tables e below (T29.setTop (mkF m 189 #[.val (.int p0), .val (.int p1), .val (.int p2), .val (.ref b1), .val (.int p0), .unset] [(.int (1 : Int32)), (.int p2)])) _
    refine XS.iand X29.here hx rfl (hb hby at_189) rfl ?_
    show Steps p.tables e below (T29.setTop (mkF m 190 #[.val (.int p0), .val (.int p1), .val (.int p2), .val (.ref b1), .val (.int p0), .unset] [(.int (p2 &&& (1 : Int32)))])) _
    exact k
  suffices w31 : ∀ (T31 : State) (L31 : List Loc) (X31 : Stand p l e room_1 s m #[(.int p0), (.int p1), (.int p2)] below meth c T31 L31 1 28) (e31 : T31.heap = h29) (N31 : Fr n0 L31) (b31_l4 : Int32) (b31_l5 : Slot) (h_b31_l4 : b31_l4 = (if (p2 &&& (1 : Int32)) = (0 : Int32) then p0 else ((own_edges.getD (((p1 &&& (2147483647 : Int32)) % (28 : Int32))).toNatClampNeg 0) + ((p2 >>> ((1 : Int32) &&& 31)) % (3 : Int32))))) (h_b31_l5 : One b31_l5), own_Ends p e below s n0 room_1.cells room_1.slots T31 (mkF m 214 #[.val (.int p0), .val (.int p1), .val (.int p2), .val (.ref b1), .val (.int b31_l4), b31_l5] []) own_Q0 by
    by_cases hm190_30 : (p2 &&& (1 : Int32)) = (0 : Int32)
    · refine own_go (T' := T29) (g' := (mkF m 214 #[.val (.int p0), .val (.int p1), .val (.int p2), .val (.ref b1), .val (.int p0), .unset] [])) (fun t k => ?_) ?_
      · refine XS.ifYes X29.here hx rfl (pc0 := 190) (pc' := 214) rfl (hb hby at_190) rfl ((if0 _ _).trans (teq hm190_30).1) (by decide) (by decide) ?_
        exact k
      exact w31 _ _ X29 e29 N29 p0 _ (by rw [if_pos hm190_30]) One.u
    · refine own_go (T' := T29) (g' := (mkF m 193 #[.val (.int p0), .val (.int p1), .val (.int p2), .val (.ref b1), .val (.int p0), .unset] [])) (fun t k => ?_) ?_
      · refine XS.ifNo X29.here hx rfl (hb hby at_190) rfl ((if0 _ _).trans (feq hm190_30).1) ?_
        exact k
      refine own_go (T' := T29) (g' := (mkF m 214 #[.val (.int p0), .val (.int p1), .val (.int p2), .val (.ref b1), .val (.int ((own_edges.getD (((p1 &&& (2147483647 : Int32)) % (28 : Int32))).toNatClampNeg 0) + ((p2 >>> ((1 : Int32) &&& 31)) % (3 : Int32)))), .val (.int ((p2 >>> ((1 : Int32) &&& 31)) % (3 : Int32)))] [])) (fun t k => ?_) ?_
      · show Steps p.tables e below (T29.setTop (mkF m 193 #[.val (.int p0), .val (.int p1), .val (.int p2), .val (.ref b1), .val (.int p0), .unset] [])) t
        refine XS.iloadN X29.here hx rfl (hb hby at_193) rfl ?_
        show Steps p.tables e below (T29.setTop (mkF m 194 #[.val (.int p0), .val (.int p1), .val (.int p2), .val (.ref b1), .val (.int p0), .unset] [(.int p2)])) _
        refine XS.iconst X29.here hx rfl (hb hby at_194) ?_
        show Steps p.tables e below (T29.setTop (mkF m 195 #[.val (.int p0), .val (.int p1), .val (.int p2), .val (.ref b1), .val (.int p0), .unset] [(.int (1 : Int32)), (.int p2)])) _
        refine XS.ishr X29.here hx rfl (hb hby at_195) rfl ?_
        show Steps p.tables e below (T29.setTop (mkF m 196 #[.val (.int p0), .val (.int p1), .val (.int p2), .val (.ref b1), .val (.int p0), .unset] [(.int (p2 >>> ((1 : Int32) &&& 31)))])) _
        refine XS.iconst X29.here hx rfl (hb hby at_196) ?_
        show Steps p.tables e below (T29.setTop (mkF m 197 #[.val (.int p0), .val (.int p1), .val (.int p2), .val (.ref b1), .val (.int p0), .unset] [(.int (3 : Int32)), (.int (p2 >>> ((1 : Int32) &&& 31)))])) _
        refine iremM X29 hx rfl (hb hby at_197) rfl (by decide) ?_
        show Steps p.tables e below (T29.setTop (mkF m 198 #[.val (.int p0), .val (.int p1), .val (.int p2), .val (.ref b1), .val (.int p0), .unset] [(.int ((p2 >>> ((1 : Int32) &&& 31)) % (3 : Int32)))])) _
        refine XS.istore X29.here hx rfl (hb hby at_198) rfl (l' := #[.val (.int p0), .val (.int p1), .val (.int p2), .val (.ref b1), .val (.int p0), .val (.int ((p2 >>> ((1 : Int32) &&& 31)) % (3 : Int32)))]) rfl ?_
        show Steps p.tables e below (T29.setTop (mkF m 200 #[.val (.int p0), .val (.int p1), .val (.int p2), .val (.ref b1), .val (.int p0), .val (.int ((p2 >>> ((1 : Int32) &&& 31)) % (3 : Int32)))] [])) _
        refine XS.aloadN X29.here hx rfl (hb hby at_200) rfl rfl ?_
        show Steps p.tables e below (T29.setTop (mkF m 201 #[.val (.int p0), .val (.int p1), .val (.int p2), .val (.ref b1), .val (.int p0), .val (.int ((p2 >>> ((1 : Int32) &&& 31)) % (3 : Int32)))] [(.ref b1)])) _
        refine XS.iloadN X29.here hx rfl (hb hby at_201) rfl ?_
        show Steps p.tables e below (T29.setTop (mkF m 202 #[.val (.int p0), .val (.int p1), .val (.int p2), .val (.ref b1), .val (.int p0), .val (.int ((p2 >>> ((1 : Int32) &&& 31)) % (3 : Int32)))] [(.int p1), (.ref b1)])) _
        refine X29.ldcInt hx hown (mvT hZ (hw _ (List.mem_of_getElem? (i := 19) rfl))) (g := (mkF m 202 #[.val (.int p0), .val (.int p1), .val (.int p2), .val (.ref b1), .val (.int p0), .val (.int ((p2 >>> ((1 : Int32) &&& 31)) % (3 : Int32)))] [(.int p1), (.ref b1)])) rfl (hb hby at_202) _ ?_
        show Steps p.tables e below (T29.setTop (mkF m 204 #[.val (.int p0), .val (.int p1), .val (.int p2), .val (.ref b1), .val (.int p0), .val (.int ((p2 >>> ((1 : Int32) &&& 31)) % (3 : Int32)))] [(.int (2147483647 : Int32)), (.int p1), (.ref b1)])) _
        refine XS.iand X29.here hx rfl (hb hby at_204) rfl ?_
        show Steps p.tables e below (T29.setTop (mkF m 205 #[.val (.int p0), .val (.int p1), .val (.int p2), .val (.ref b1), .val (.int p0), .val (.int ((p2 >>> ((1 : Int32) &&& 31)) % (3 : Int32)))] [(.int (p1 &&& (2147483647 : Int32))), (.ref b1)])) _
        refine XS.bipush X29.here hx rfl (hb hby at_205) ?_
        show Steps p.tables e below (T29.setTop (mkF m 207 #[.val (.int p0), .val (.int p1), .val (.int p2), .val (.ref b1), .val (.int p0), .val (.int ((p2 >>> ((1 : Int32) &&& 31)) % (3 : Int32)))] [(.int (28 : Int32)), (.int (p1 &&& (2147483647 : Int32))), (.ref b1)])) _
        refine iremM X29 hx rfl (hb hby at_207) rfl (by decide) ?_
        show Steps p.tables e below (T29.setTop (mkF m 208 #[.val (.int p0), .val (.int p1), .val (.int p2), .val (.ref b1), .val (.int p0), .val (.int ((p2 >>> ((1 : Int32) &&& 31)) % (3 : Int32)))] [(.int ((p1 &&& (2147483647 : Int32)) % (28 : Int32))), (.ref b1)])) _
        refine own_ldI X29 hx hZ e29 V_b1_29 (j := ((p1 &&& (2147483647 : Int32)) % (28 : Int32))) (own_j p1) (v := (.int (own_edges.getD (((p1 &&& (2147483647 : Int32)) % (28 : Int32))).toNatClampNeg 0))) (own_gd own_edges _) (g := (mkF m 208 #[.val (.int p0), .val (.int p1), .val (.int p2), .val (.ref b1), .val (.int p0), .val (.int ((p2 >>> ((1 : Int32) &&& 31)) % (3 : Int32)))] [(.int ((p1 &&& (2147483647 : Int32)) % (28 : Int32))), (.ref b1)])) rfl rfl (hb hby at_208) _ ?_
        show Steps p.tables e below (T29.setTop (mkF m 209 #[.val (.int p0), .val (.int p1), .val (.int p2), .val (.ref b1), .val (.int p0), .val (.int ((p2 >>> ((1 : Int32) &&& 31)) % (3 : Int32)))] [(.int (own_edges.getD (((p1 &&& (2147483647 : Int32)) % (28 : Int32))).toNatClampNeg 0))])) _
        refine XS.iload X29.here hx rfl (hb hby at_209) rfl ?_
        show Steps p.tables e below (T29.setTop (mkF m 211 #[.val (.int p0), .val (.int p1), .val (.int p2), .val (.ref b1), .val (.int p0), .val (.int ((p2 >>> ((1 : Int32) &&& 31)) % (3 : Int32)))] [(.int ((p2 >>> ((1 : Int32) &&& 31)) % (3 : Int32))), (.int (own_edges.getD (((p1 &&& (2147483647 : Int32)) % (28 : Int32))).toNatClampNeg 0))])) _
        refine XS.iadd X29.here hx rfl (hb hby at_211) rfl ?_
        show Steps p.tables e below (T29.setTop (mkF m 212 #[.val (.int p0), .val (.int p1), .val (.int p2), .val (.ref b1), .val (.int p0), .val (.int ((p2 >>> ((1 : Int32) &&& 31)) % (3 : Int32)))] [(.int ((own_edges.getD (((p1 &&& (2147483647 : Int32)) % (28 : Int32))).toNatClampNeg 0) + ((p2 >>> ((1 : Int32) &&& 31)) % (3 : Int32))))])) _
        refine XS.istore X29.here hx rfl (hb hby at_212) rfl (l' := #[.val (.int p0), .val (.int p1), .val (.int p2), .val (.ref b1), .val (.int ((own_edges.getD (((p1 &&& (2147483647 : Int32)) % (28 : Int32))).toNatClampNeg 0) + ((p2 >>> ((1 : Int32) &&& 31)) % (3 : Int32)))), .val (.int ((p2 >>> ((1 : Int32) &&& 31)) % (3 : Int32)))]) rfl ?_
        show Steps p.tables e below (T29.setTop (mkF m 214 #[.val (.int p0), .val (.int p1), .val (.int p2), .val (.ref b1), .val (.int ((own_edges.getD (((p1 &&& (2147483647 : Int32)) % (28 : Int32))).toNatClampNeg 0) + ((p2 >>> ((1 : Int32) &&& 31)) % (3 : Int32)))), .val (.int ((p2 >>> ((1 : Int32) &&& 31)) % (3 : Int32)))] [])) _
        exact k
      exact w31 _ _ X29 e29 N29 ((own_edges.getD (((p1 &&& (2147483647 : Int32)) % (28 : Int32))).toNatClampNeg 0) + ((p2 >>> ((1 : Int32) &&& 31)) % (3 : Int32))) _ (by rw [if_neg hm190_30]) (One.val rfl)
  intro T31 L31 X31 e31 N31 b31_l4 b31_l5 h_b31_l4 h_b31_l5
  refine own_go (T' := T31) (g' := (mkF m 216 #[.val (.int p0), .val (.int p1), .val (.int p2), .val (.ref b1), .val (.int b31_l4), b31_l5] [(.int b31_l4)])) (fun t k => ?_) ?_
  · show Steps p.tables e below (T31.setTop (mkF m 214 #[.val (.int p0), .val (.int p1), .val (.int p2), .val (.ref b1), .val (.int b31_l4), b31_l5] [])) t
    refine XS.iload X31.here hx rfl (hb hby at_214) rfl ?_
    show Steps p.tables e below (T31.setTop (mkF m 216 #[.val (.int p0), .val (.int p1), .val (.int p2), .val (.ref b1), .val (.int b31_l4), b31_l5] [(.int b31_l4)])) _
    exact k
  obtain ⟨_, T32, L32, X32, N32, ⟨rfl, e32⟩, st32⟩ := own_callS X31 hx hZ hown (hw _ (List.mem_of_getElem? (i := 8) rfl)) (hw _ (List.mem_of_getElem? (i := 9) rfl)) (hw _ (List.mem_of_getElem? (i := 10) rfl)) (hw _ (List.mem_of_getElem? (i := 11) rfl)) (by decide) (argsL := [(.int b31_l4)]) (rest := []) (rm1 l Z a0 hw b31_l4 h29 n0) (W := 0) (by decide) (by decide) (g := (mkF m 216 #[.val (.int p0), .val (.int p1), .val (.int p2), .val (.ref b1), .val (.int b31_l4), b31_l5] [(.int b31_l4)])) rfl (by rw [hml]; rfl) pd_0 rfl rfl (by show 2 * 0 + _ ≤ _; exact Nat.le_of_eq rfl) (hb hby at_216) e31 (by decide) (by decide) N31
  refine own_go (T' := T32) (g' := (mkF m 219 #[.val (.int p0), .val (.int p1), .val (.int p2), .val (.ref b1), .val (.int b31_l4), b31_l5] [(.int (f1_0 b31_l4))])) st32 ?_
  suffices w34 : ∀ (T34 : State) (L34 : List Loc) (X34 : Stand p l e room_1 s m #[(.int p0), (.int p1), (.int p2)] below meth c T34 L34 1 28) (e34 : T34.heap = h29) (N34 : Fr n0 L34) (b34_s0 : Int32) (h_b34_s0 : b34_s0 = (if (f1_0 b31_l4) = (0 : Int32) then (1 : Int32) else (0 : Int32))), own_Ends p e below s n0 room_1.cells room_1.slots T34 (mkF m 227 #[.val (.int p0), .val (.int p1), .val (.int p2), .val (.ref b1), .val (.int b31_l4), b31_l5] [(.int b34_s0)]) own_Q0 by
    by_cases hm219_33 : (f1_0 b31_l4) = (0 : Int32)
    · refine own_go (T' := T32) (g' := (mkF m 222 #[.val (.int p0), .val (.int p1), .val (.int p2), .val (.ref b1), .val (.int b31_l4), b31_l5] [])) (fun t k => ?_) ?_
      · refine XS.ifNo X32.here hx rfl (hb hby at_219) rfl ((if0 _ _).trans (teq hm219_33).2) ?_
        exact k
      refine own_go (T' := T32) (g' := (mkF m 227 #[.val (.int p0), .val (.int p1), .val (.int p2), .val (.ref b1), .val (.int b31_l4), b31_l5] [(.int (1 : Int32))])) (fun t k => ?_) ?_
      · show Steps p.tables e below (T32.setTop (mkF m 222 #[.val (.int p0), .val (.int p1), .val (.int p2), .val (.ref b1), .val (.int b31_l4), b31_l5] [])) t
        refine XS.iconst X32.here hx rfl (hb hby at_222) ?_
        show Steps p.tables e below (T32.setTop (mkF m 223 #[.val (.int p0), .val (.int p1), .val (.int p2), .val (.ref b1), .val (.int b31_l4), b31_l5] [(.int (1 : Int32))])) _
        refine XS.goto X32.here hx rfl (pc0 := 223) (pc' := 227) rfl (hb hby at_223) (by decide) (by decide) ?_
        show Steps p.tables e below (T32.setTop (mkF m 227 #[.val (.int p0), .val (.int p1), .val (.int p2), .val (.ref b1), .val (.int b31_l4), b31_l5] [(.int (1 : Int32))])) _
        exact k
      exact w34 _ _ X32 e32 N32 (1 : Int32) (by rw [if_pos hm219_33])
    · refine own_go (T' := T32) (g' := (mkF m 226 #[.val (.int p0), .val (.int p1), .val (.int p2), .val (.ref b1), .val (.int b31_l4), b31_l5] [])) (fun t k => ?_) ?_
      · refine XS.ifYes X32.here hx rfl (pc0 := 219) (pc' := 226) rfl (hb hby at_219) rfl ((if0 _ _).trans (feq hm219_33).2) (by decide) (by decide) ?_
        exact k
      refine own_go (T' := T32) (g' := (mkF m 227 #[.val (.int p0), .val (.int p1), .val (.int p2), .val (.ref b1), .val (.int b31_l4), b31_l5] [(.int (0 : Int32))])) (fun t k => ?_) ?_
      · show Steps p.tables e below (T32.setTop (mkF m 226 #[.val (.int p0), .val (.int p1), .val (.int p2), .val (.ref b1), .val (.int b31_l4), b31_l5] [])) t
        refine XS.iconst X32.here hx rfl (hb hby at_226) ?_
        show Steps p.tables e below (T32.setTop (mkF m 227 #[.val (.int p0), .val (.int p1), .val (.int p2), .val (.ref b1), .val (.int b31_l4), b31_l5] [(.int (0 : Int32))])) _
        exact k
      exact w34 _ _ X32 e32 N32 (0 : Int32) (by rw [if_neg hm219_33])
  intro T34 L34 X34 e34 N34 b34_s0 h_b34_s0
  refine own_go (T' := T34) (g' := (mkF m 231 #[.val (.int p0), .val (.int p1), .val (.int p2), .val (.ref b1), .val (.int b31_l4), .val (.int b34_s0)] [(.int b31_l4)])) (fun t k => ?_) ?_
  · show Steps p.tables e below (T34.setTop (mkF m 227 #[.val (.int p0), .val (.int p1), .val (.int p2), .val (.ref b1), .val (.int b31_l4), b31_l5] [(.int b34_s0)])) t
    refine XS.istore X34.here hx rfl (hb hby at_227) rfl (l' := #[.val (.int p0), .val (.int p1), .val (.int p2), .val (.ref b1), .val (.int b31_l4), .val (.int b34_s0)]) (XS.store1 (o := b31_l5) rfl h_b31_l5 rfl) ?_
    show Steps p.tables e below (T34.setTop (mkF m 229 #[.val (.int p0), .val (.int p1), .val (.int p2), .val (.ref b1), .val (.int b31_l4), .val (.int b34_s0)] [])) _
    refine XS.iload X34.here hx rfl (hb hby at_229) rfl ?_
    show Steps p.tables e below (T34.setTop (mkF m 231 #[.val (.int p0), .val (.int p1), .val (.int p2), .val (.ref b1), .val (.int b31_l4), .val (.int b34_s0)] [(.int b31_l4)])) _
    exact k
  obtain ⟨_, T35, L35, X35, N35, ⟨rfl, e35⟩, st35⟩ := own_callS X34 hx hZ hown (hw _ (List.mem_of_getElem? (i := 12) rfl)) (hw _ (List.mem_of_getElem? (i := 13) rfl)) (hw _ (List.mem_of_getElem? (i := 14) rfl)) (hw _ (List.mem_of_getElem? (i := 15) rfl)) (by decide) (argsL := [(.int b31_l4)]) (rest := []) (rm2 l Z a0 hw b31_l4 h29 n0) (W := 0) (by decide) (by decide) (g := (mkF m 231 #[.val (.int p0), .val (.int p1), .val (.int p2), .val (.ref b1), .val (.int b31_l4), .val (.int b34_s0)] [(.int b31_l4)])) rfl (by rw [hml]; rfl) pd_0 rfl rfl (by show 2 * 0 + _ ≤ _; exact Nat.le_of_eq rfl) (hb hby at_231) e34 (by decide) (by decide) N34
  refine own_go (T' := T35) (g' := (mkF m 234 #[.val (.int p0), .val (.int p1), .val (.int p2), .val (.ref b1), .val (.int b31_l4), .val (.int b34_s0)] [(.int (f2_0 b31_l4))])) st35 ?_
  refine own_go (T' := T35) (g' := (mkF m 236 #[.val (.int p0), .val (.int p1), .val (.int p2), .val (.ref b1), .val (.int b31_l4), .val (.int b34_s0)] [(.int b34_s0), (.int (f2_0 b31_l4))])) (fun t k => ?_) ?_
  · show Steps p.tables e below (T35.setTop (mkF m 234 #[.val (.int p0), .val (.int p1), .val (.int p2), .val (.ref b1), .val (.int b31_l4), .val (.int b34_s0)] [(.int (f2_0 b31_l4))])) t
    refine XS.iload X35.here hx rfl (hb hby at_234) rfl ?_
    show Steps p.tables e below (T35.setTop (mkF m 236 #[.val (.int p0), .val (.int p1), .val (.int p2), .val (.ref b1), .val (.int b31_l4), .val (.int b34_s0)] [(.int b34_s0), (.int (f2_0 b31_l4))])) _
    exact k
  refine own_go (T' := T35) (g' := (mkF m 244 #[.val (.int p0), .val (.int p1), .val (.int p2), .val (.ref b1), .val (.int b31_l4), .val (.int b34_s0)] [(.int (1 : Int32))])) (fun t k => ?_) ?_
  · show Steps p.tables e below (T35.setTop (mkF m 236 #[.val (.int p0), .val (.int p1), .val (.int p2), .val (.ref b1), .val (.int b31_l4), .val (.int b34_s0)] [(.int b34_s0), (.int (f2_0 b31_l4))])) t
    refine XS.icmpNo X35.here hx rfl (hb hby at_236) rfl (teq ((own_law _).trans h_b34_s0.symm)).2 ?_
    show Steps p.tables e below (T35.setTop (mkF m 239 #[.val (.int p0), .val (.int p1), .val (.int p2), .val (.ref b1), .val (.int b31_l4), .val (.int b34_s0)] [])) _
    refine XS.iconst X35.here hx rfl (hb hby at_239) ?_
    show Steps p.tables e below (T35.setTop (mkF m 240 #[.val (.int p0), .val (.int p1), .val (.int p2), .val (.ref b1), .val (.int b31_l4), .val (.int b34_s0)] [(.int (1 : Int32))])) _
    refine XS.goto X35.here hx rfl (pc0 := 240) (pc' := 244) rfl (hb hby at_240) (by decide) (by decide) ?_
    show Steps p.tables e below (T35.setTop (mkF m 244 #[.val (.int p0), .val (.int p1), .val (.int p2), .val (.ref b1), .val (.int b31_l4), .val (.int b34_s0)] [(.int (1 : Int32))])) _
    exact k
  exact own_retN X35 hx hlk hret (by simp) (hb hby at_244) (by decide) (by decide) N35 ⟨rfl, trivial⟩
set_option maxRecDepth 65536 in
set_option maxHeartbeats 40000000 in
theorem comes_1 {Post : Tables → Env → Array Value → State → Outcome → State → Prop} (hpost : ∀ tb e args s v u, (limb_1_1.after args s (.returned v) u = true ∧ limb_1_2.after args s (.returned v) u = true ∧ True) → FrameEnd s (.returned v) u (Jvm.fieldLocs frame_1_writes args s ++ Jvm.arrayLocs frame_1_arrays args s ++ Jvm.staticLocs frame_1_statics s) 16 128 → Post tb e args s (.returned v) u) :
    ArmFor flags0 classFile x code maxLocals ret World_1 tables_1 room_1 Calls_1 rest_1 Pre_1 Post := by
  intro l hfl _ _ p e ha hc hk s m args below hf hA hF happ hP
  obtain ⟨hcalls, hrest, hpre⟩ := hP
  obtain ⟨-, -, -, hnamed, -, -, -, hat⟩ := (Spec.applies_iff hf).mp happ
  obtain ⟨hg, hn⟩ := and_e (Cond.before_iff.mp (show (Jvm.Cond.and given_1 narrow_1).before args s = true from hpre))
  obtain ⟨h1, g0⟩ := and_e hg
  obtain ⟨k0, g1⟩ := and_e g0
  obtain ⟨k1, g2⟩ := and_e g1
  have k2 := g2
  obtain ⟨w0, w1, w2, rfl⟩ : ∃ w0 w1 w2 : Value, args = #[w0, w1, w2] := by
    have hs : args.size = 3 := by simpa [Cond.value, given_1] using h1
    obtain ⟨L⟩ := args
    match L, hs with
    | [w0, w1, w2], _ => exact ⟨w0, w1, w2, rfl⟩
  have hw := fun d (hd : d ∈ tables_1) => atoms_spec (ws := Jvm.Cond.code x code maxLocals ret :: tables_1) hat d (List.mem_cons_of_mem _ hd)
  obtain ⟨i0, e0⟩ := is_v k0
  obtain rfl : w0 = (.int i0) := Option.some.inj e0
  obtain ⟨i1, e1⟩ := is_v k1
  obtain rfl : w1 = (.int i1) := Option.some.inj e1
  obtain ⟨i2, e2⟩ := is_v k2
  obtain rfl : w2 = (.int i2) := Option.some.inj e2
  obtain ⟨n, o, h1, h2, h3, v, L, rfl, ⟨N, hv⟩, hq⟩ := rm0 l s _ hw i0 i1 i2 s.heap s.heap.size (Nat.le_refl _) p e ha hc hk s m _ below hf ((Spec.applies_iff_loose hf).mp happ).1 ⟨rfl, State.Warmed39.refl s, rfl⟩ trivial
  obtain rfl : v = some (.int 1) := hv.1
  refine ⟨n, _, h1, h2, h3, hpost _ _ _ _ _ _ ⟨Cond.after_iff.mpr rfl, Cond.after_iff.mpr (eq_i res_at (Term.int_eval (1)) rfl), trivial⟩ ⟨hq.1, hq.2.1, (hq.2.2.sift fun y hy => Or.inr (N y hy)).mono (by decide) (by decide)⟩⟩
theorem main_1_1 : Claimed_1_1 := comes_1 fun _ _ _ _ _ _ h hF => ⟨h.1, hF⟩
theorem main_1_2 : Claimed_1_2 := comes_1 fun _ _ _ _ _ _ h hF => ⟨h.2.1, hF⟩
end Jvm.Pilot.@@N@@
namespace Jvm.Pilot.@@N@@
open Jvm Jvm.ClassFile Sem Op Lib Jvm.Free Jvm.Stand Jvm.Pilot.@@N@@.Jvm.D
/-! MADE BY PROGRAM (witnessworld.py) out of the Statement's table words and the real class files: 9 classes; the members and pool entries that the words name. The judged class is class 1, her method 2. -/
namespace start1
open Jvm.ClassFile
def u (s : String) : CpInfo := .utf8 (stringToUtf16 s)
def gap : Nat → List CpInfo → List CpInfo
  | 0, r => r
  | n + 1, r => .unusable :: gap n r
def poolList (es : List (Nat × CpInfo)) (last : Nat) : List CpInfo := es.foldr (fun e r => gap e.1 (e.2 :: r)) (gap last [])
def pool (es : List (Nat × CpInfo)) (last : Nat) : Array CpInfo := ⟨poolList es last⟩
def fileOf (pool : Array CpInfo) (this : Nat) (attrs : Array Attribute := #[]) (ms : Array MethodInfo := #[]) (fl : Nat := 33) (sup : Nat := 0) (ifs : Array Nat := #[]) (fds : Array FieldInfo := #[]) : ClassFile where
  minorVersion := 0
  majorVersion := 65
  constantPool := pool
  accessFlags := fl
  thisClass := this
  superClass := sup
  interfaces := ifs
  fields := fds
  methods := ms
  attributes := attrs
def plain (name : String) (sup : Option ClassId) : Class where
  name := name
  kind := .ordinary
  loader := none
  accessFlags := 33
  super := sup
  interfaces := #[]
  cf := none
  fields := #[]
  methods := #[]
  instanceTypes := #[]
  staticTypes := #[]
  resolved := #[]
  callSites := []
  init := .initialized
  statics := none
  mirror := none

def pool0 : Array CpInfo := pool [(5, u "<init>"), (0, u "()V"), (1, .class_ 10), (1, u "java/lang/Object")] 113

def k0m0 : Method := { name := "<init>", desc := "()V", sig := { parameters := [], returnType := none }, accessFlags := 1, code := none }
def k0 : Class := { plain "java/lang/Object" none with
  accessFlags := 33
  interfaces := #[]
  cf := some (fileOf pool0 8 #[] #[{ accessFlags := 1, nameIndex := 5, descriptorIndex := 6, attributes := #[] }] 33 0 #[] #[])
  fields := #[]
  methods := #[k0m0]
  instanceTypes := #[]
  staticTypes := #[]
  resolved := Array.replicate 124 none
  statics := none }

def pool1 : Array CpInfo := pool [(2, .class_ 4), (1, u "java/lang/Object"), (0, u "<init>"), (0, u "()V"), (0, .integer 55296), (0, .integer 63743), (0, .integer 64976), (0, .integer 65007), (0, .integer 65534), (0, .integer 65535), (0, .integer 983039), (0, .integer 55295), (0, .integer 63744), (0, .integer 64975), (0, .integer 65008), (0, .integer 65533), (0, .integer 65536), (0, .integer 2147483647), (0, .methodref 22 23), (0, .class_ 24), (0, .nameAndType 25 26), (0, u x.cls), (0, u "inGap"), (0, u "(I)Z"), (0, .methodref 28 29), (0, .class_ 30), (0, .nameAndType 31 26), (0, u site_231.cls), (0, u "isPnCharsBase"), (3, u "law"), (0, u "(III)Z")] 4

def k1m0 : Method := { name := "<init>", desc := "()V", sig := { parameters := [], returnType := none }, accessFlags := 2, code := none }
def k1c1 : Code := { maxStack := 2, maxLocals := 1, code := method_2_code, exceptionTable := #[], attributes := #[] }
def k1m1 : Method := { name := "inGap", desc := "(I)Z", sig := { parameters := [.int], returnType := some .boolean }, accessFlags := 10, code := some k1c1 }
def k1c2 : Code := { maxStack := 4, maxLocals := 6, code := code, exceptionTable := #[], attributes := #[] }
def k1m2 : Method := { name := "law", desc := "(III)Z", sig := { parameters := [.int, .int, .int], returnType := some .boolean }, accessFlags := 9, code := some k1c2 }
def k1 : Class := { plain x.cls (some 0) with
  accessFlags := 49
  interfaces := #[]
  cf := some (fileOf pool1 22 #[] #[{ accessFlags := 2, nameIndex := 5, descriptorIndex := 6, attributes := #[] }, { accessFlags := 10, nameIndex := 25, descriptorIndex := 26, attributes := #[] }, { accessFlags := 9, nameIndex := 35, descriptorIndex := 36, attributes := #[] }] 49 2 #[] #[])
  fields := #[]
  methods := #[k1m0, k1m1, k1m2]
  instanceTypes := #[]
  staticTypes := #[]
  resolved := Array.replicate 41 none
  statics := none }

def pool2 : Array CpInfo := pool [(2, .class_ 4), (1, u "java/lang/Object"), (0, u "<init>"), (0, u "()V"), (0, .integer 55295), (0, .integer 63744), (0, .integer 64975), (0, .integer 65008), (0, .integer 65533), (0, .integer 65536), (0, .integer 983039), (1, .class_ 17), (1, u site_231.cls), (0, u "isPnCharsBase"), (0, u "(I)Z")] 16

def k2m0 : Method := { name := "<init>", desc := "()V", sig := { parameters := [], returnType := none }, accessFlags := 2, code := none }
def k2c1 : Code := { maxStack := 2, maxLocals := 1, code := prog_79_method_2_code, exceptionTable := #[], attributes := #[] }
def k2m1 : Method := { name := "isPnCharsBase", desc := "(I)Z", sig := { parameters := [.int], returnType := some .boolean }, accessFlags := 8, code := some k2c1 }
def k2 : Class := { plain site_231.cls (some 0) with
  accessFlags := 48
  interfaces := #[]
  cf := some (fileOf pool2 15 #[] #[{ accessFlags := 2, nameIndex := 5, descriptorIndex := 6, attributes := #[] }, { accessFlags := 8, nameIndex := 18, descriptorIndex := 19, attributes := #[] }] 48 2 #[] #[])
  fields := #[]
  methods := #[k2m0, k2m1]
  instanceTypes := #[]
  staticTypes := #[]
  resolved := Array.replicate 36 none
  statics := none }

def pool3 : Array CpInfo := pool [(1, u "java/lang/Cloneable"), (0, .class_ 1), (0, u "java/lang/Object"), (0, .class_ 3)] 3

def k3 : Class := { plain "java/lang/Cloneable" (some 0) with
  accessFlags := 1537
  interfaces := #[]
  cf := some (fileOf pool3 2 #[] #[] 1537 4 #[] #[])
  fields := #[]
  methods := #[]
  instanceTypes := #[]
  staticTypes := #[]
  resolved := Array.replicate 8 none
  statics := none }

def pool4 : Array CpInfo := pool [(1, u "java/io/Serializable"), (0, .class_ 1), (0, u "java/lang/Object"), (0, .class_ 3)] 3

def k4 : Class := { plain "java/io/Serializable" (some 0) with
  accessFlags := 1537
  interfaces := #[]
  cf := some (fileOf pool4 2 #[] #[] 1537 4 #[] #[])
  fields := #[]
  methods := #[]
  instanceTypes := #[]
  staticTypes := #[]
  resolved := Array.replicate 8 none
  statics := none }

def k5 : Class := { plain "byte" none with kind := .primitive 'B', accessFlags := 0x411 }
def k6 : Class := { plain "[B" (some 0) with kind := .array 5 .byte, interfaces := #[3, 4], accessFlags := 1041 }

def k7 : Class := { plain "int" none with kind := .primitive 'I', accessFlags := 0x411 }
def k8 : Class := { plain "[I" (some 0) with kind := .array 7 .int, interfaces := #[3, 4], accessFlags := 1041 }

def heap : Heap := #[]
def classes : Array Class := #[k0, k1, k2, k3, k4, k5, k6, k7, k8]
def interned : List (Array UInt16 × Addr) := []
def slotsUsed : Nat := 0
def theMethod : MethodId := ⟨1, 2⟩
def args0 : Array Value := #[.int 5, .int 300, .int 7]
def aboutOver (below : List Frame) : State where
  vm := { classes := classes, interned := interned.toArray }
  heap := heap
  slotsUsed := slotsUsed
  threads := #[{ frames := .invoking theMethod args0 :: below }]
def below0 : List Frame := [.native { method := ⟨0, 0⟩, args := #[] }]
def about1 : State := aboutOver below0
def p0 : Program := .bare "" "" ""
def e0 : Env := launch0.env 0 0 0
theorem w_frames : about1.frames = Frame.invoking theMethod args0 :: below0 := rfl
set_option maxRecDepth 65536 in
theorem w_args : argsFit about1.vm theMethod args0 = true := by decide +kernel
set_option maxRecDepth 65536 in
theorem w_heap : heapFits about1 = true := by decide +kernel
set_option maxRecDepth 65536 in
theorem w_runnable : about1.curStatus? = some .runnable := by decide +kernel
set_option maxRecDepth 65536 in
theorem w_alone : about1.alone = true := by decide +kernel
set_option maxRecDepth 65536 in
theorem w_named : about1.methodNamed? x = some theMethod := by decide +kernel
set_option maxRecDepth 65536 in
theorem w_hears : about1.hears theMethod below0 = true := by decide +kernel
set_option maxRecDepth 65536 in
theorem w_ripe : about1.ripe theMethod args0 below0 = true := by decide +kernel
theorem w_running : about1.status = .running := rfl
set_option maxRecDepth 65536 in
theorem w_room : about1.hasRoom e0.platform room_1 = true :=
  launch0.hasRoom_least _ room_1 (by decide +kernel) (by decide +kernel) (by decide +kernel) (by decide +kernel) (by decide +kernel) (by decide +kernel)
theorem allAtoms_all (ts : List Jvm.Cond) (a : Array Jvm.Value) (st : Jvm.State) : (allAtoms ts).before a st = ts.all (fun c => c.before a st) := by
  induction ts with
  | nil => rfl
  | cons c t ih =>
    show (Jvm.Cond.and c (allAtoms t)).before a st = _
    rw [Jvm.Cond.before_and, ih, List.all_cons]
def words1 : List Jvm.Cond := Jvm.Cond.code x code maxLocals ret :: tables_1
theorem code_word {y : MethodName} {bytes : ByteArray} {mx : Nat} {rt : Option FieldType} {a : Array Value} {s : State} {m : MethodId} {meth : Method} {c : Code} (h1 : s.methodNamed? y = some m) (h2 : s.vm.method? m = some meth) (h3 : meth.code = some c) (h4 : c.code = bytes)
    (h5 : (c.maxLocals == mx && c.exceptionTable.isEmpty && decide (c.maxStack ≤ mostOperands) && decide (meth.sig.returnType = rt) && !meth.locks && decide (parseMethodDescriptor y.desc = some meth.sig)) = true) : (Jvm.Cond.code y bytes mx rt).before a s = true := by
  simp only [Bool.and_eq_true, beq_iff_eq, Bool.not_eq_true', decide_eq_true_eq] at h5
  obtain ⟨⟨⟨⟨⟨g1, g2⟩, g3⟩, g4⟩, g5⟩, g6⟩ := h5
  simp [Cond.before, Cond.holds, Cond.value, h1, h2, h3, h4, g1, g2, g3, g4, g5, g6]
def isCode : Jvm.Cond → Bool
  | .code _ _ _ _ => true
  | _ => false
theorem all_split {L : List Jvm.Cond} {P : Jvm.Cond → Bool} (h1 : L.all (fun c => isCode c || P c) = true) (h2 : ∀ c ∈ L.filter isCode, P c = true) : L.all P = true := by
  refine List.all_eq_true.mpr fun c hc => ?_
  have h := List.all_eq_true.mp h1 c hc
  rcases Bool.eq_false_or_eq_true (isCode c) with hi | hi
  · exact h2 c (List.mem_filter.mpr ⟨hc, hi⟩)
  · simpa [hi] using h
set_option maxRecDepth 65536 in
theorem w_c0 : (Jvm.Cond.code x code maxLocals ret).before args0 about1 = true := code_word (m := ⟨1, 2⟩) (meth := k1m2) (c := k1c2) (by decide +kernel) rfl rfl rfl (by decide +kernel)
set_option maxRecDepth 65536 in
theorem w_c1 : (Jvm.Cond.code ({ cls := x.cls, name := "inGap", desc := "(I)Z" } : Jvm.MethodName) method_2_code (1 : Nat) (Option.some Jvm.ClassFile.FieldType.boolean)).before args0 about1 = true := code_word (m := ⟨1, 1⟩) (meth := k1m1) (c := k1c1) (by decide +kernel) rfl rfl rfl (by decide +kernel)
set_option maxRecDepth 65536 in
theorem w_c2 : (Jvm.Cond.code ({ cls := site_231.cls, name := "isPnCharsBase", desc := "(I)Z" } : Jvm.MethodName) prog_79_method_2_code (1 : Nat) (Option.some Jvm.ClassFile.FieldType.boolean)).before args0 about1 = true := code_word (m := ⟨2, 1⟩) (meth := k2m1) (c := k2c1) (by decide +kernel) rfl rfl rfl (by decide +kernel)
def codes1 : List Jvm.Cond := [Jvm.Cond.code x code maxLocals ret, Jvm.Cond.code ({ cls := x.cls, name := "inGap", desc := "(I)Z" } : Jvm.MethodName) method_2_code (1 : Nat) (Option.some Jvm.ClassFile.FieldType.boolean), Jvm.Cond.code ({ cls := site_231.cls, name := "isPnCharsBase", desc := "(I)Z" } : Jvm.MethodName) prog_79_method_2_code (1 : Nat) (Option.some Jvm.ClassFile.FieldType.boolean)]
set_option maxRecDepth 65536 in
theorem codes_eq : words1.filter isCode = codes1 := rfl
theorem w_codes : ∀ c ∈ words1.filter isCode, c.before args0 about1 = true := by
  rw [codes_eq]
  intro c hc
  simp only [codes1, List.mem_cons, List.not_mem_nil, or_false] at hc
  rcases hc with rfl | rfl | rfl
  · exact w_c0
  · exact w_c1
  · exact w_c2
set_option maxRecDepth 65536 in
theorem w_t1 : (words1.take 24).all (fun c => isCode c || c.before args0 about1) = true := by decide +kernel
set_option maxRecDepth 65536 in
theorem w_t2 : (words1.drop 24).all (fun c => isCode c || c.before args0 about1) = true := by decide +kernel
theorem w_tables : (allAtoms (Jvm.Cond.code x code maxLocals ret :: tables_1)).before args0 about1 = true := by
  rw [allAtoms_all]
  show words1.all (fun c => c.before args0 about1) = true
  refine all_split ?_ w_codes
  rw [← List.take_append_drop 24 words1, List.all_append, w_t1, w_t2]
  rfl
set_option maxRecDepth 65536 in
theorem w_case : (Jvm.Cond.and given_1 narrow_1).before args0 about1 = true := by decide +kernel
theorem w_applies : (headSpec (Jvm.Cond.code x code maxLocals ret :: tables_1) room_1).applies x e0.platform about1 = true :=
  (Spec.applies_iff w_frames).mpr ⟨w_running, w_runnable, w_alone, w_named, w_hears, w_ripe, w_room, w_tables⟩
theorem atStart : AtStart classFile x code maxLocals ret World_1 tables_1 room_1 Calls_1 rest_1 Pre_1 launch0 p0 e0 about1 theMethod args0 below0 :=
  ⟨lists_1, trivial, launch0.admits_env _ _ _, launch0.least_env, fairChoices_fair.cas, fairChoices_fair.clock, w_frames, w_args, w_heap, w_applies, trivial, trivial, w_case⟩
end start1
theorem witness_1 : WitnessClaimed_1 := ⟨start1.p0, start1.e0, start1.about1, start1.theMethod, start1.args0, start1.below0, start1.atStart⟩
end Jvm.Pilot.@@N@@
