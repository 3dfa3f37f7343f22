import JvmDerived
import JvmDerived.Pilot.@@N@@Statement
import JvmDerived.Pilot.@@N@@Code
set_option linter.unusedVariables false
set_option linter.unusedSimpArgs false
namespace Jvm.Pilot.@@N@@
open Jvm Jvm.ClassFile Sem Op Lib Jvm.Free Jvm.Stand Jvm.LawKit Jvm.RoadKit Bundle Jvm.Pilot.@@N@@.Jvm.D
theorem own_w {Z : State} {a0 : Array Value} (hw : ∀ d ∈ tables_1, d.before a0 Z = true) (k : Nat) {d : Jvm.Cond} (h : tables_1[k]? = some d) : d.before a0 Z = true := hw _ (List.mem_of_getElem? h)
/-- the run from U ends, and Q says what it leaves -/
def own_Fin (p : Program) (e : Env) (below : List Frame) (s : State) (Q : Option Value → Heap → List Loc → Prop) (k n : Nat) (U : State) : Prop :=
  ∃ s₂ o, Steps p.tables e below U s₂ ∧ s₂.status = .running ∧ Ended s₂ below o ∧ ∃ v L, o = .returned v ∧ Q v s₂.heap L ∧ FrameEnd s o s₂ L k n
theorem own_Fin.step {p : Program} {e : Env} {below : List Frame} {s : State} {Q : Option Value → Heap → List Loc → Prop} {k n : Nat} {U U' : State} (st : ∀ t, Steps p.tables e below U' t → Steps p.tables e below U t) (h : own_Fin p e below s Q k n U') : own_Fin p e below s Q k n U := by
  obtain ⟨s₂, o, h1, h2⟩ := h
  exact ⟨s₂, o, st _ h1, h2⟩
/-- a contract: called with as' at the heap h, the body leaves what Q says -/
abbrev own_Met (l : Launch) (Z : State) (ws : List Jvm.Cond) (y : MethodName) (bytes : ByteArray) (maxL : Nat) (ret : Option FieldType) (rm : Room) (as' : Array Value) (h : Heap) (Q : Option Value → Heap → List Loc → Prop) : Prop :=
  MetFree l y (head1 (Jvm.Cond.code y bytes maxL ret :: ws) rm) (fun a U => a = as' ∧ Z.Warmed39 U.vm ∧ U.heap = h) (fun _ _ _ _ _ => True) (fun _ U o U' => ∃ v L, o = .returned v ∧ Q v U'.heap L ∧ FrameEnd U o U' L rm.cells rm.slots)
/-- what a body leaves that returns w and writes nothing -/
def own_QP (w : Option Value) (h0 : Heap) (n0 : Nat) (v : Option Value) (h : Heap) (L : List Loc) : Prop := v = w ∧ Fr n0 L ∧ h = h0
/-- the law's own end -/
def own_Q0 (n0 : Nat) (v : Option Value) (h : Heap) (L : List Loc) : Prop := v = some (.int 1) ∧ Fr n0 L
theorem own_enter {l : Launch} {Z : State} {ws : List Jvm.Cond} {y : MethodName} {bytes : ByteArray} {maxL : Nat} {ret : Option FieldType} {rm : Room} {as' : Array Value} {h : Heap} {Q : Option Value → Heap → List Loc → Prop} (hp : plainFor y = true)
    (body : ∀ (p : Program) (e : Env) (s : State) (m : MethodId) (below : List Frame) (meth : Method) (c : Code) (s₁ : State), Stand p l e rm s m as' below meth c s₁ [] 0 0 → p.tables.exec = Jvm.exec → c.code = bytes → c.maxLocals = maxL → s.vm.findClass y.cls = some m.cls → meth.sig.returnType = ret → meth.locks = false → meth.name = y.name → Z.Warmed39 s.vm → s₁.heap = h →
      own_Fin p e below s Q rm.cells rm.slots (s₁.setTop (entryFrame m as' maxL))) : own_Met l Z ws y bytes maxL ret rm as' h Q := by
  refine MetFree.of_bodySF hp hisR ?_
  intro p e s m args below meth c s₁ Bd hml0 hP hK
  obtain ⟨rfl, hZ, hh⟩ := hP
  exact body p e s m below meth c s₁ (Stand.of_body Bd) Bd.exec Bd.bytes hml0 (findClass_of_methodNamed Bd.named) Bd.returns (BodyLoose.notSynchronized Bd) (name_of_methodNamed Bd.named Bd.method).1 hZ (by rw [← hh, Bd.state]; rfl)
section Own
variable {p : Program} {l : Launch} {e : Env} {R : Room} {s : State} {m : MethodId} {args : Array Value} {below : List Frame} {meth : Method} {c : Code} {T : State} {locs : List Loc} {cells slots : Nat} {Z : State} {a0 : Array Value} {h : Heap} {Q : Option Value → Heap → List Loc → Prop} {k n : Nat}
theorem own_retI (X : Stand p l e R s m args below meth c T locs cells slots) (hx : p.tables.exec = Jvm.exec) (hlk : meth.locks = false) {pc : Nat} {Ls : Array Slot} {z : Int32} {rest : List Value} (hret : meth.sig.returnType = some .int) (hd : decode c.code pc = .ok (.ireturn, 1)) (hQ : Q (some (.int z)) T.heap locs) (hk : cells ≤ k) (hn : slots ≤ n) :
    own_Fin p e below s Q k n (T.setTop (mkF m pc Ls (.int z :: rest))) := by
  obtain ⟨fs, hr, hrun, hended, hW, hsame⟩ := X.leave (v := some (.int z)) (fun h => by rw [hret] at h; cases h) hlk
  refine ⟨_, _, ?_, hrun, hended, _, _, rfl, hQ, ⟨_, rfl⟩, hW, hsame.mono hk hn⟩
  have hm' : T.vm.method? m = some meth := X.method'
  have hnn : narrow .int (.int z) = .int z := rfl
  show Steps p.tables e below (T.setTop { method := m, pc := pc, locals := Ls, stack := _ :: rest, locked := none }) _
  jvm_step X.here [X.here.top, hx, hd, hm', hret, hnn]
  first | (intro acts; rw [hr _ acts rfl rfl rfl]) | rw [hr _ _ rfl rfl rfl]
  exact Steps.refl _
theorem own_retN (X : Stand p l e R s m args below meth c T locs cells slots) (hx : p.tables.exec = Jvm.exec) (hlk : meth.locks = false) {pc : Nat} {Ls : Array Slot} {z : Int32} {t : FieldType} {rest : List Value} (hret : meth.sig.returnType = some t) (ht : t = .boolean ∨ t = .byte ∨ t = .char ∨ t = .short) (hd : decode c.code pc = .ok (.ireturn, 1)) (hQ : Q (some (.int (nar t z))) T.heap locs) (hk : cells ≤ k) (hn : slots ≤ n) :
    own_Fin p e below s Q k n (T.setTop (mkF m pc Ls (.int z :: rest))) := by
  obtain ⟨fs, hr, hrun, hended, hW, hsame⟩ := X.leave (v := some (.int (nar t z))) (fun h => by rw [hret] at h; cases h) hlk
  exact ⟨_, _, retN X hx hret ht hd hr, hrun, hended, _, _, rfl, hQ, ⟨_, rfl⟩, hW, hsame.mono hk hn⟩
theorem own_retJ (X : Stand p l e R s m args below meth c T locs cells slots) (hx : p.tables.exec = Jvm.exec) (hlk : meth.locks = false) {pc : Nat} {Ls : Array Slot} {z : Int64} (hret : meth.sig.returnType = some .long) (hd : decode c.code pc = .ok (.lreturn, 1)) (hQ : Q (some (.long z)) T.heap locs) (hk : cells ≤ k) (hn : slots ≤ n) :
    own_Fin p e below s Q k n (T.setTop (mkF m pc Ls [.long z])) := by
  obtain ⟨fs, hr, hrun, hended, hW, hsame⟩ := X.leave (v := some (.long z)) (fun h => by rw [hret] at h; cases h) hlk
  exact ⟨_, _, X.lreturnOut hx hret hd hr, hrun, hended, _, _, rfl, hQ, ⟨_, rfl⟩, hW, hsame.mono hk hn⟩
theorem own_retR (X : Stand p l e R s m args below meth c T locs cells slots) (hx : p.tables.exec = Jvm.exec) (hlk : meth.locks = false) {pc : Nat} {Ls : Array Slot} {w : Value} {t : FieldType} (hw : w.isRef = true) (hret : meth.sig.returnType = some t) (ht : t.isReference = true) (hd : decode c.code pc = .ok (.areturn, 1)) (hQ : Q (some w) T.heap locs) (hk : cells ≤ k) (hn : slots ≤ n) :
    own_Fin p e below s Q k n (T.setTop (mkF m pc Ls [w])) := by
  obtain ⟨fs, hr, hrun, hended, hW, hsame⟩ := X.leave (v := some w) (fun h => by rw [hret] at h; cases h) hlk
  exact ⟨_, _, X.areturnOut hx hw hret ht hd hr, hrun, hended, _, _, rfl, hQ, ⟨_, rfl⟩, hW, hsame.mono hk hn⟩
theorem own_ret0 (X : Stand p l e R s m args below meth c T locs cells slots) (hx : p.tables.exec = Jvm.exec) (hlk : meth.locks = false) {pc : Nat} {Ls : Array Slot} (hret : meth.sig.returnType = none) (hd : decode c.code pc = .ok (.return_, 1)) (hQ : Q none T.heap locs) (hk : cells ≤ k) (hn : slots ≤ n) :
    own_Fin p e below s Q k n (T.setTop (mkF m pc Ls [])) := by
  obtain ⟨fs, hr, hrun, hended, hW, hsame⟩ := X.leave (v := none) (fun _ => rfl) hlk
  exact ⟨_, _, X.returnOut hx hret hd hr, hrun, hended, _, _, rfl, hQ, ⟨_, rfl⟩, hW, hsame.mono hk hn⟩
theorem own_lrem {tb : Tables} [Ours tb] {target : State} {g : JFrame} (h : At T m c below) (hx : tb.exec = Jvm.exec) (hg : g.method = m) {x y : Int64} {rest : List Value} (hd : decode c.code g.pc = .ok (.lrem, 1)) (hs : g.stack = .long y :: .long x :: rest) (hy : y ≠ 0)
    (hr : Steps tb e below (T.setTop { g with pc := g.pc + 1, stack := .long (x % y) :: rest }) target) : Steps tb e below (T.setTop g) target := by
  have q : x - x / y * y = x % y := lrem_mod x y
  exact XS.lrem h hx hg hd hs hy (by rw [q]; exact hr)
theorem own_callS (X : Stand p l e R s m args below meth c T locs cells slots) (hx : p.tables.exec = Jvm.exec) (hZ : Z.Warmed39 s.vm) {own : String} {index : Nat} {y : MethodName} {bytes : ByteArray} {maxL : Nat} {ret : Option FieldType} {rm : Room} {as' : Array Value}
    (hown : s.vm.findClass own = some m.cls) (w1 : (Jvm.Cond.methodLink own index y).before a0 Z = true) (w2 : (Jvm.Cond.static y).before a0 Z = true) (w3 : (Jvm.Cond.initialized y.cls).before a0 Z = true) (w4 : (Jvm.Cond.code y bytes maxL ret).before a0 Z = true)
    (hy : y.cls ≠ "java/lang/invoke/MethodHandle" ∧ y.cls ≠ "java/lang/invoke/VarHandle") (hM : own_Met l Z [] y bytes maxL ret rm as' h Q) {W : Nat} (hf : rm.frames + 1 ≤ R.frames) (hl : W + (maxL + 11) + rm.locals ≤ R.locals) (eT : T.heap = h)
    {g : JFrame} (hg : g.method = m) (hsize : g.locals.size = c.maxLocals) {argsL rest : List Value} (hlen : ∀ sig, parseMethodDescriptor y.desc = some sig → argsL.length = sig.parameters.length) (has : argsL.toArray = as') (hstack : g.stack = argsL.reverse ++ rest) (hW : 2 * g.monitorRoom + (rest.map fun v => v.category).sum ≤ W)
    (hdg : decode c.code g.pc = .ok (.invokestatic index, 3)) (hc : cells + rm.cells ≤ R.cells) (hs : slots + rm.slots ≤ R.slots) :
    ∃ v T' L, Stand p l e R s m args below meth c T' (locs ++ L) (cells + rm.cells) (slots + rm.slots) ∧ Q v T'.heap L ∧ ∀ t, Steps p.tables e below (T'.setTop { g with pc := g.pc + 3, stack := v.toList ++ rest }) t → Steps p.tables e below (T.setTop g) t := by
  obtain ⟨v, vm1, ⟨T', L', k', n'⟩, -, X', ⟨Lc, hQ, l1, y1, z1⟩, st⟩ := Jvm.LawKit.callS X hx (y := y) hown (mvT hZ w1) (mvT hZ w2) (mvT hZ w3) (mvT hZ w4) hy (backOf (W := W) hM hZ w4 w3 hf hl) (g := g) hg hsize (argsL := argsL) (rest := rest) hlen hstack hW hdg (fun _ _ => ⟨has, eT, hc, hs⟩)
  dsimp only [Pt.U, Pt.locs, Pt.cells, Pt.slots] at X' l1 y1 z1 st hQ
  subst l1 y1 z1
  exact ⟨v, T', Lc, X', hQ, st⟩
theorem own_callN (X : Stand p l e R s m args below meth c T locs cells slots) (hx : p.tables.exec = Jvm.exec) (hZ : Z.Warmed39 s.vm) {own : String} {index : Nat} {y : MethodName} {bytes : ByteArray} {maxL : Nat} {rm : Room} {as' : Array Value} (hy1 : y.name = "<init>")
    (hown : s.vm.findClass own = some m.cls) (w1 : (Jvm.Cond.methodLink own index y).before a0 Z = true) (w2 : (Jvm.Cond.instanceMethod y).before a0 Z = true) (w3 : (Jvm.Cond.initialized y.cls).before a0 Z = true) (w4 : (Jvm.Cond.code y bytes maxL none).before a0 Z = true)
    (hy : y.cls ≠ "java/lang/invoke/MethodHandle" ∧ y.cls ≠ "java/lang/invoke/VarHandle") (hM : own_Met l Z [] y bytes maxL none rm as' h Q) {W : Nat} (hf : rm.frames + 1 ≤ R.frames) (hl : W + (maxL + 11) + rm.locals ≤ R.locals) {a : Addr} (eT : T.heap = h)
    {g : JFrame} (hg : g.method = m) (hsize : g.locals.size = c.maxLocals) {argsL rest : List Value} (hlen : ∀ sig, parseMethodDescriptor y.desc = some sig → argsL.length = sig.parameters.length) (has : (.ref a :: argsL).toArray = as') (hstack : g.stack = argsL.reverse ++ .ref a :: rest) (hW : 2 * g.monitorRoom + (rest.map fun v => v.category).sum ≤ W)
    (hdg : decode c.code g.pc = .ok (.invokespecial index, 3)) (hc : cells + rm.cells ≤ R.cells) (hs : slots + rm.slots ≤ R.slots) :
    ∃ v T' L, Stand p l e R s m args below meth c T' (locs ++ L) (cells + rm.cells) (slots + rm.slots) ∧ Q v T'.heap L ∧ ∀ t, Steps p.tables e below (T'.setTop { g with pc := g.pc + 3, stack := v.toList ++ rest }) t → Steps p.tables e below (T.setTop g) t := by
  obtain ⟨v, vm1, ⟨T', L', k', n'⟩, -, X', ⟨Lc, hQ, l1, y1, z1⟩, st⟩ := X.specialBack hx (y := y) hy1 hown (mvT hZ w1) (mvT hZ w2) (mvT hZ w4) hy (backOf (W := W) hM hZ w4 w3 hf hl) (g := g) hg hsize (Steps.refl _) (a := a) (argsL := argsL) (rest := rest) hlen hstack hW hdg (fun _ _ => ⟨has, eT, hc, hs⟩)
  dsimp only [Pt.U, Pt.locs, Pt.cells, Pt.slots] at X' l1 y1 z1 st hQ
  subst l1 y1 z1
  exact ⟨v, T', Lc, X', hQ, fun t k => st.trans k⟩
theorem own_callV (X : Stand p l e R s m args below meth c T locs cells slots) (hx : p.tables.exec = Jvm.exec) (hZ : Z.Warmed39 s.vm) {own C : String} {index : Nat} {y : MethodName} {bytes : ByteArray} {maxL : Nat} {ret : Option FieldType} {rm : Room} {as' : Array Value}
    (hown : s.vm.findClass own = some m.cls) (w1 : (Jvm.Cond.methodLink own index y).before a0 Z = true) (w2 : (Jvm.Cond.declares y).before a0 Z = true) (w5 : (Jvm.Cond.selects C y y).before a0 Z = true) (w6 : (Jvm.Cond.instanceMethod y).before a0 Z = true) (w3 : (Jvm.Cond.initialized y.cls).before a0 Z = true) (w4 : (Jvm.Cond.code y bytes maxL ret).before a0 Z = true)
    (hy : y.cls ≠ "java/lang/invoke/MethodHandle" ∧ y.cls ≠ "java/lang/invoke/VarHandle") (hM : own_Met l Z [] y bytes maxL ret rm as' h Q) {W : Nat} (hf : rm.frames + 1 ≤ R.frames) (hl : W + (maxL + 11) + rm.locals ≤ R.locals) {a : Addr} (E : Exa Z h a C) (eT : T.heap = h)
    {g : JFrame} (hg : g.method = m) (hsize : g.locals.size = c.maxLocals) {argsL rest : List Value} (hlen : ∀ sig, parseMethodDescriptor y.desc = some sig → argsL.length = sig.parameters.length) (has : (.ref a :: argsL).toArray = as') (hstack : g.stack = argsL.reverse ++ .ref a :: rest) (hW : 2 * g.monitorRoom + (rest.map fun v => v.category).sum ≤ W)
    (hdg : decode c.code g.pc = .ok (.invokevirtual index, 3)) (hc : cells + rm.cells ≤ R.cells) (hs : slots + rm.slots ≤ R.slots) :
    ∃ v T' L, Stand p l e R s m args below meth c T' (locs ++ L) (cells + rm.cells) (slots + rm.slots) ∧ Q v T'.heap L ∧ ∀ t, Steps p.tables e below (T'.setTop { g with pc := g.pc + 3, stack := v.toList ++ rest }) t → Steps p.tables e below (T.setTop g) t := by
  obtain ⟨cq, kq, qa, qb, qc⟩ := isOf hZ eT E
  obtain ⟨v, vm1, ⟨T', L', k', n'⟩, -, X', ⟨Lc, hQ, l1, y1, z1⟩, st⟩ := X.virtualBack hx (y := y) (z := y) hown (mvT hZ w1) (mvT hZ w2) (notFace_of_selects (args := #[]) (mvT hZ w5)) (mvT hZ w5) (mvT hZ w6) hy (backOf (W := W) hM hZ w4 w3 hf hl) qa qc (g := g) hg hsize (Steps.refl _) (argsL := argsL) (rest := rest) hlen hstack hW hdg (fun _ _ => ⟨has, eT, hc, hs⟩)
  dsimp only [Pt.U, Pt.locs, Pt.cells, Pt.slots] at X' l1 y1 z1 st hQ
  subst l1 y1 z1
  exact ⟨v, T', Lc, X', hQ, fun t k => st.trans k⟩
theorem own_newA (X : Stand p l e R s m args below meth c T locs cells slots) (hx : p.tables.exec = Jvm.exec) (hZ : Z.Warmed39 s.vm) {aty : ArrayType} (w : (Jvm.Cond.arrayClass (newarray.typeOf aty)).before a0 Z = true) (eT : T.heap = h) {ty : FieldType} {dv : Value} (hty : newarray.typeOf aty = ty) (hdv : defaultValue ty = dv)
    {g : JFrame} (hg : g.method = m) (hd : decode c.code g.pc = .ok (.newarray aty, 2)) {n : Int32} {rest : List Value} (hs : g.stack = .int n :: rest) (hn : ¬ n < 0) {cap : Nat} (hcap : n.toNatClampNeg ≤ cap) (hb : cap * 8 ≤ 536870912) (hc : cells + 1 ≤ R.cells) (hl : slots + cap ≤ R.slots) (N : Nat) :
    ∃ T' h' k a, Stand p l e R s m args below meth c T' locs (cells + 1) (slots + cap) ∧ T'.heap = h' ∧ Ext h h' ∧ a = h.size ∧ Arv Z h' a k ty n (List.replicate N dv) dv ∧
      ∀ t, Steps p.tables e below (T'.setTop { g with pc := g.pc + 2, stack := .ref a :: rest }) t → Steps p.tables e below (T.setTop g) t := by
  subst hty hdv
  obtain ⟨T', h', k, X', e', E, A, st⟩ := newP X hx hZ w eT hg hd hs hn hcap hb hc hl
  exact ⟨T', h', k, _, X', e', E, rfl, by simpa using (Arv.new A hn).pad (pad_rep [] _ N), st⟩
theorem own_stI (X : Stand p l e R s m args below meth c T locs cells slots) (hx : p.tables.exec = Jvm.exec) (hZ : Z.Warmed39 s.vm) (eT : T.heap = h) {a : Addr} {k : ClassId} {n : Int32} {vs : List Value} {dv : Value} (F : Arv Z h a k .int n vs dv) {j x : Int32} (hj : ¬ j < 0 ∧ j < n) (i : Nat) (hi : j.toNatClampNeg = i) (hl : i < vs.length)
    {g : JFrame} (hg : g.method = m) {rest : List Value} (hs : g.stack = .int x :: .int j :: .ref a :: rest) (hd : decode c.code g.pc = .ok (.iastore, 1)) :
    ∃ T' h', Stand p l e R s m args below meth c T' (locs ++ [⟨a, j.toNatClampNeg⟩]) cells slots ∧ T'.heap = h' ∧ Arv Z h' a k .int n (vs.set i (.int x)) dv ∧ Wr h h' a j.toNatClampNeg (.int x) ∧ ∀ t, Steps p.tables e below (T'.setTop { g with pc := g.pc + 1, stack := rest }) t → Steps p.tables e below (T.setTop g) t := by
  obtain ⟨cl, A, q1, q2, q3, H, G⟩ := F
  obtain ⟨T', h', X', e', W, st⟩ := stI X hx hZ eT A (j := j) (inb_of q2 hj) hg hs hd
  exact ⟨T', h', X', e', Arv.set A q1 q2 q3 H G rfl W i hi hl, W, st⟩
theorem own_stJ (X : Stand p l e R s m args below meth c T locs cells slots) (hx : p.tables.exec = Jvm.exec) (hZ : Z.Warmed39 s.vm) (eT : T.heap = h) {a : Addr} {k : ClassId} {n : Int32} {vs : List Value} {dv : Value} (F : Arv Z h a k .long n vs dv) {j : Int32} {x : Int64} (hj : ¬ j < 0 ∧ j < n) (i : Nat) (hi : j.toNatClampNeg = i) (hl : i < vs.length)
    {g : JFrame} (hg : g.method = m) {rest : List Value} (hs : g.stack = .long x :: .int j :: .ref a :: rest) (hd : decode c.code g.pc = .ok (.lastore, 1)) :
    ∃ T' h', Stand p l e R s m args below meth c T' (locs ++ [⟨a, j.toNatClampNeg⟩]) cells slots ∧ T'.heap = h' ∧ Arv Z h' a k .long n (vs.set i (.long x)) dv ∧ Wr h h' a j.toNatClampNeg (.long x) ∧ ∀ t, Steps p.tables e below (T'.setTop { g with pc := g.pc + 1, stack := rest }) t → Steps p.tables e below (T.setTop g) t := by
  obtain ⟨cl, A, q1, q2, q3, H, G⟩ := F
  obtain ⟨T', h', X', e', W, st⟩ := stJ X hx hZ eT A (j := j) (inb_of q2 hj) hg hs hd
  exact ⟨T', h', X', e', Arv.set A q1 q2 q3 H G rfl W i hi hl, W, st⟩
theorem own_stB (X : Stand p l e R s m args below meth c T locs cells slots) (hx : p.tables.exec = Jvm.exec) (hZ : Z.Warmed39 s.vm) (eT : T.heap = h) {a : Addr} {k : ClassId} {n : Int32} {vs : List Value} {dv : Value} (F : Arv Z h a k .byte n vs dv) {j x : Int32} (hj : ¬ j < 0 ∧ j < n) (i : Nat) (hi : j.toNatClampNeg = i) (hl : i < vs.length)
    {g : JFrame} (hg : g.method = m) {rest : List Value} (hs : g.stack = .int x :: .int j :: .ref a :: rest) (hd : decode c.code g.pc = .ok (.bastore, 1)) :
    ∃ T' h', Stand p l e R s m args below meth c T' (locs ++ [⟨a, j.toNatClampNeg⟩]) cells slots ∧ T'.heap = h' ∧ Arv Z h' a k .byte n (vs.set i (.int (nar .byte x))) dv ∧ Wr h h' a j.toNatClampNeg (.int (nar .byte x)) ∧ ∀ t, Steps p.tables e below (T'.setTop { g with pc := g.pc + 1, stack := rest }) t → Steps p.tables e below (T.setTop g) t := by
  obtain ⟨cl, A, q1, q2, q3, H, G⟩ := F
  obtain ⟨T', h', X', e', W, st⟩ := stB X hx hZ eT A (j := j) (inb_of q2 hj) hg hs hd
  exact ⟨T', h', X', e', Arv.set A q1 q2 q3 H G (fits_nar_byte x) W i hi hl, W, st⟩
theorem own_nar (y : Int32) : nar .byte y.toInt8.toInt32 = y.toInt8.toInt32 := by
  show y.toInt8.toInt32.toInt8.toInt32 = _
  simp
theorem own_stBn (X : Stand p l e R s m args below meth c T locs cells slots) (hx : p.tables.exec = Jvm.exec) (hZ : Z.Warmed39 s.vm) (eT : T.heap = h) {a : Addr} {k : ClassId} {n : Int32} {vs : List Value} {dv : Value} (F : Arv Z h a k .byte n vs dv) {j x : Int32} (hj : ¬ j < 0 ∧ j < n) (i : Nat) (hi : j.toNatClampNeg = i) (hl : i < vs.length)
    {g : JFrame} (hg : g.method = m) {rest : List Value} (hs : g.stack = .int x.toInt8.toInt32 :: .int j :: .ref a :: rest) (hd : decode c.code g.pc = .ok (.bastore, 1)) :
    ∃ T' h', Stand p l e R s m args below meth c T' (locs ++ [⟨a, j.toNatClampNeg⟩]) cells slots ∧ T'.heap = h' ∧ Arv Z h' a k .byte n (vs.set i (.int x.toInt8.toInt32)) dv ∧ Wr h h' a j.toNatClampNeg (.int x.toInt8.toInt32) ∧ ∀ t, Steps p.tables e below (T'.setTop { g with pc := g.pc + 1, stack := rest }) t → Steps p.tables e below (T.setTop g) t := by
  have h := own_stB X hx hZ eT F hj i hi hl hg hs hd
  rw [own_nar] at h
  exact h
theorem own_ldI (X : Stand p l e R s m args below meth c T locs cells slots) (hx : p.tables.exec = Jvm.exec) (hZ : Z.Warmed39 s.vm) (eT : T.heap = h) {a : Addr} {k : ClassId} {n : Int32} {vs : List Value} {dv v : Value} (F : Arv Z h a k .int n vs dv) {j : Int32} (hj : ¬ j < 0 ∧ j < n) (hv : vs.getD j.toNatClampNeg dv = v)
    {g : JFrame} (hg : g.method = m) {rest : List Value} (hs : g.stack = .int j :: .ref a :: rest) (hd : decode c.code g.pc = .ok (.iaload, 1)) :
    ∀ t, Steps p.tables e below (T.setTop { g with pc := g.pc + 1, stack := v :: rest }) t → Steps p.tables e below (T.setTop g) t := by
  obtain ⟨cl, A, q1, q2, q3, H, G⟩ := F
  have hin := inb_of q2 hj
  exact fun t kt => X.iaload hx (j := j) (v := v) (by rw [eT]; exact A.1) (State.isArrayOf_alike hZ.alike A.2.1) A.2.2 hin (H.at hin hv) hg hs hd _ kt
theorem own_ldJ (X : Stand p l e R s m args below meth c T locs cells slots) (hx : p.tables.exec = Jvm.exec) (hZ : Z.Warmed39 s.vm) (eT : T.heap = h) {a : Addr} {k : ClassId} {n : Int32} {vs : List Value} {dv v : Value} (F : Arv Z h a k .long n vs dv) {j : Int32} (hj : ¬ j < 0 ∧ j < n) (hv : vs.getD j.toNatClampNeg dv = v)
    {g : JFrame} (hg : g.method = m) {rest : List Value} (hs : g.stack = .int j :: .ref a :: rest) (hd : decode c.code g.pc = .ok (.laload, 1)) :
    ∀ t, Steps p.tables e below (T.setTop { g with pc := g.pc + 1, stack := v :: rest }) t → Steps p.tables e below (T.setTop g) t := by
  obtain ⟨cl, A, q1, q2, q3, H, G⟩ := F
  have hin := inb_of q2 hj
  exact fun t kt => X.laload hx (j := j) (v := v) (by rw [eT]; exact A.1) (State.isArrayOf_alike hZ.alike A.2.1) A.2.2 hin (H.at hin hv) hg hs hd _ kt
theorem own_ldB (X : Stand p l e R s m args below meth c T locs cells slots) (hx : p.tables.exec = Jvm.exec) (hZ : Z.Warmed39 s.vm) (eT : T.heap = h) {a : Addr} {k : ClassId} {n : Int32} {vs : List Value} {dv v : Value} (F : Arv Z h a k .byte n vs dv) {j : Int32} (hj : ¬ j < 0 ∧ j < n) (hv : vs.getD j.toNatClampNeg dv = v)
    {g : JFrame} (hg : g.method = m) {rest : List Value} (hs : g.stack = .int j :: .ref a :: rest) (hd : decode c.code g.pc = .ok (.baload, 1)) :
    ∀ t, Steps p.tables e below (T.setTop { g with pc := g.pc + 1, stack := v :: rest }) t → Steps p.tables e below (T.setTop g) t := by
  obtain ⟨cl, A, q1, q2, q3, H, G⟩ := F
  have hin := inb_of q2 hj
  exact fun t kt => X.baloadBytes hx (j := j) (v := v) (by rw [eT]; exact A.1) (State.isArrayOf_alike hZ.alike A.2.1) A.2.2 hin (H.at hin hv) hg hs hd _ kt
theorem own_len (X : Stand p l e R s m args below meth c T locs cells slots) (hx : p.tables.exec = Jvm.exec) (hZ : Z.Warmed39 s.vm) (eT : T.heap = h) {a : Addr} {k : ClassId} {ty : FieldType} {n : Int32} {vs : List Value} {dv : Value} (F : Arv Z h a k ty n vs dv)
    {g : JFrame} (hg : g.method = m) {rest : List Value} (hs : g.stack = .ref a :: rest) (hd : decode c.code g.pc = .ok (.arraylength, 1)) :
    ∀ t, Steps p.tables e below (T.setTop { g with pc := g.pc + 1, stack := .int n :: rest }) t → Steps p.tables e below (T.setTop g) t := by
  obtain ⟨cl, A, q1, q2, q3, H, G⟩ := F
  exact fun t kt => X.arraylength hx (by rw [eT]; exact A.1) (State.isArrayOf_alike hZ.alike A.2.1) hg hs hd _ (by rw [len_of q2 q3]; exact kt)
end Own
def own_p10 : Nat → Int64
  | 0 => 1
  | n + 1 => own_p10 n * 10
theorem own_next {i p : Int32} {k : Nat} (hi : ¬ i < 0) (hk : i.toNatClampNeg + (k + 1) = p.toNatClampNeg) : i < p ∧ ¬ (i + 1) < 0 ∧ (i + 1).toNatClampNeg = i.toNatClampNeg + 1 := by
  have r := rng32 p
  have h1 := c_iadd i 1
  have q1 : (1 : Int32).toInt = 1 := by decide
  have r1 := rng32 (i + 1)
  have ei : i.toNatClampNeg = i.toInt.toNat := rfl
  have ep : p.toNatClampNeg = p.toInt.toNat := rfl
  have ej : (i + 1).toNatClampNeg = (i + 1).toInt.toNat := rfl
  rw [Int32.lt_iff_toInt_lt] at hi
  have q0 : (0 : Int32).toInt = 0 := by decide
  refine ⟨Int32.lt_iff_toInt_lt.mpr (by omega), ?_, by omega⟩
  rw [Int32.lt_iff_toInt_lt]; omega
theorem own_stopd {i p : Int32} (hi : ¬ i < 0) (hk : i.toNatClampNeg + 0 = p.toNatClampNeg) : ¬ i < p := by
  have ei : i.toNatClampNeg = i.toInt.toNat := rfl
  have ep : p.toNatClampNeg = p.toInt.toNat := rfl
  rw [Int32.lt_iff_toInt_lt] at hi ⊢
  have q0 : (0 : Int32).toInt = 0 := by decide
  omega
def own_tab : List Int64 := [1, 10, 100, 1000, 10000, 100000, 1000000, 10000000, 100000000, 1000000000, 10000000000, 100000000000, 1000000000000, 10000000000000, 100000000000000, 1000000000000000, 10000000000000000, 100000000000000000, 1000000000000000000]
theorem own_at : ∀ j : Fin 19, (own_tab.map Value.long).getD j.val (.long 0) = .long (own_p10 j.val) := by decide +kernel
theorem own_e (x : Int32) : (¬ ((x &&& 2147483647) % 19) < 0) ∧ ((x &&& 2147483647) % 19) < (19 : Int32) ∧ ((x &&& 2147483647) % 19).toNatClampNeg < 19 := by
  have h1 := c_mask x 2147483647 31 (by omega) (by decide)
  have h2 := (c_irem (x &&& 2147483647) 19 19 (by decide)).1
  generalize (x &&& 2147483647) % 19 = z at *
  generalize x &&& 2147483647 = y at *
  have hy : 0 ≤ y.toInt := by rw [h1]; exact Int.emod_nonneg _ (by decide)
  have h2 := h2 hy
  have ez : z.toNatClampNeg = z.toInt.toNat := rfl
  have q0 : (0 : Int32).toInt = 0 := by decide
  have q19 : (19 : Int32).toInt = 19 := by decide
  refine ⟨?_, Int32.lt_iff_toInt_lt.mpr (by omega), by omega⟩
  rw [Int32.lt_iff_toInt_lt]; omega
theorem d1_0 : decode prog_89_method_12_code 0 = .ok (.lconst 1, 1) := by decide +kernel
theorem d1_1 : decode prog_89_method_12_code 1 = .ok (.lstore_n 1, 1) := by decide +kernel
theorem d1_2 : decode prog_89_method_12_code 2 = .ok (.iconst 0, 1) := by decide +kernel
theorem d1_3 : decode prog_89_method_12_code 3 = .ok (.istore_n 3, 1) := by decide +kernel
theorem d1_4 : decode prog_89_method_12_code 4 = .ok (.iload_n 3, 1) := by decide +kernel
theorem d1_5 : decode prog_89_method_12_code 5 = .ok (.iload_n 0, 1) := by decide +kernel
theorem d1_6 : decode prog_89_method_12_code 6 = .ok (.if_icmp .ge 15, 3) := by decide +kernel
theorem d1_9 : decode prog_89_method_12_code 9 = .ok (.lload_n 1, 1) := by decide +kernel
theorem d1_10 : decode prog_89_method_12_code 10 = .ok (.ldc2_w 127, 3) := by decide +kernel
theorem d1_13 : decode prog_89_method_12_code 13 = .ok (.lmul, 1) := by decide +kernel
theorem d1_14 : decode prog_89_method_12_code 14 = .ok (.lstore_n 1, 1) := by decide +kernel
theorem d1_15 : decode prog_89_method_12_code 15 = .ok (.iinc 3 1, 3) := by decide +kernel
theorem d1_18 : decode prog_89_method_12_code 18 = .ok (.goto (-14), 3) := by decide +kernel
theorem d1_21 : decode prog_89_method_12_code 21 = .ok (.lload_n 1, 1) := by decide +kernel
theorem d1_22 : decode prog_89_method_12_code 22 = .ok (.lreturn, 1) := by decide +kernel
theorem pn_1 : plainFor (⟨"com/example/raw_to_screen/rawtoscreen/mapping/Rational", "powerOfTen", "(I)J"⟩ : MethodName) = true := plainFor_of_name (by first | (simp [plainName, overriddenIn]; done) | decide +kernel)
theorem ef_1 (m : MethodId) (x0 : Int32) : entryFrame m #[(.int x0)] 4 = mkF m 0 #[.val (.int x0), .unset, .unset, .unset] [] := by first | (simp [entryFrame, mkF, argsToLocals, Value.category]; done) | rfl
set_option maxRecDepth 65536 in
set_option maxHeartbeats 40000000 in
theorem rm1 (l : Launch) (Z : State) (a0 : Array Value) (hw : ∀ d ∈ tables_1, d.before a0 Z = true) (p1 : Int32)  (h0 : Heap) (n0 : Nat) (Z0 : n0 ≤ h0.size)  :
    own_Met l Z [] (⟨"com/example/raw_to_screen/rawtoscreen/mapping/Rational", "powerOfTen", "(I)J"⟩ : MethodName) prog_89_method_12_code 4 (some .long) ({ frames := 0, cells := 0, slots := 0, locals := 0 } : Room) #[(.int p1)] h0 (own_QP (some (.long (own_p10 p1.toNatClampNeg))) h0 n0) := by
  refine own_enter pn_1 ?_
  intro p e s m below meth c s₁ X0 hx hby hml hown hret hlk hnm hZ e0
  have hml : c.maxLocals = 4 := hml
  have N0 := Fr.nil n0
  rw [ef_1 m p1]
  have loop : ∀ (k : Nat) (i : Int32) (r : Int64), ¬ i < 0 → i.toNatClampNeg + k = p1.toNatClampNeg → r = own_p10 i.toNatClampNeg → own_Fin p e below s (own_QP (some (.long (own_p10 p1.toNatClampNeg))) h0 n0) ({ frames := 0, cells := 0, slots := 0, locals := 0 } : Room).cells ({ frames := 0, cells := 0, slots := 0, locals := 0 } : Room).slots (s₁.setTop (mkF m 4 #[.val (.int p1), .val (.long r), .second, .val (.int i)] [])) := by
    intro k
    induction k with
    | zero =>
      intro i r hi hk hr
      show own_Fin p e below s _ _ _ (s₁.setTop (mkF m 4 #[.val (.int p1), .val (.long r), .second, .val (.int i)] []))
      refine own_Fin.step (fun _ => XS.iloadN X0.here hx rfl (hb hby d1_4) rfl) ?_
      show own_Fin p e below s _ _ _ (s₁.setTop (mkF m 5 #[.val (.int p1), .val (.long r), .second, .val (.int i)] [(.int i)]))
      refine own_Fin.step (fun _ => XS.iloadN X0.here hx rfl (hb hby d1_5) rfl) ?_
      show own_Fin p e below s _ _ _ (s₁.setTop (mkF m 6 #[.val (.int p1), .val (.long r), .second, .val (.int i)] [(.int p1), (.int i)]))
      refine own_Fin.step (fun _ => XS.icmpYes X0.here hx rfl (pc0 := 6) (pc' := 21) rfl (hb hby d1_6) rfl (XT.ii_ge_t (own_stopd hi hk)) (by decide) (by decide)) ?_
      show own_Fin p e below s _ _ _ (s₁.setTop (mkF m 21 #[.val (.int p1), .val (.long r), .second, .val (.int i)] []))
      refine own_Fin.step (fun _ => XS.lloadN X0.here hx rfl (hb hby d1_21) rfl) ?_
      show own_Fin p e below s _ _ _ (s₁.setTop (mkF m 22 #[.val (.int p1), .val (.long r), .second, .val (.int i)] [(.long r)]))
      exact own_retJ X0 hx hlk hret (hb hby d1_22) ⟨by rw [hr, show i.toNatClampNeg = p1.toNatClampNeg from hk], N0, e0⟩ (by decide) (by decide)
    | succ k ih =>
      intro i r hi hk hr
      show own_Fin p e below s _ _ _ (s₁.setTop (mkF m 4 #[.val (.int p1), .val (.long r), .second, .val (.int i)] []))
      refine own_Fin.step (fun _ => XS.iloadN X0.here hx rfl (hb hby d1_4) rfl) ?_
      show own_Fin p e below s _ _ _ (s₁.setTop (mkF m 5 #[.val (.int p1), .val (.long r), .second, .val (.int i)] [(.int i)]))
      refine own_Fin.step (fun _ => XS.iloadN X0.here hx rfl (hb hby d1_5) rfl) ?_
      show own_Fin p e below s _ _ _ (s₁.setTop (mkF m 6 #[.val (.int p1), .val (.long r), .second, .val (.int i)] [(.int p1), (.int i)]))
      refine own_Fin.step (fun _ => XS.icmpNo X0.here hx rfl (hb hby d1_6) rfl (XT.ii_ge_f (own_next hi hk).1)) ?_
      show own_Fin p e below s _ _ _ (s₁.setTop (mkF m 9 #[.val (.int p1), .val (.long r), .second, .val (.int i)] []))
      refine own_Fin.step (fun _ => XS.lloadN X0.here hx rfl (hb hby d1_9) rfl) ?_
      show own_Fin p e below s _ _ _ (s₁.setTop (mkF m 10 #[.val (.int p1), .val (.long r), .second, .val (.int i)] [(.long r)]))
      refine own_Fin.step (X0.ldc2Long hx hown (mvT hZ (own_w hw 24 rfl)) (g := (mkF m 10 #[.val (.int p1), .val (.long r), .second, .val (.int i)] [(.long r)])) rfl (hb hby d1_10)) ?_
      show own_Fin p e below s _ _ _ (s₁.setTop (mkF m 13 #[.val (.int p1), .val (.long r), .second, .val (.int i)] [(.long (10 : Int64)), (.long r)]))
      refine own_Fin.step (fun _ => XS.lmul X0.here hx rfl (hb hby d1_13) rfl) ?_
      show own_Fin p e below s _ _ _ (s₁.setTop (mkF m 14 #[.val (.int p1), .val (.long r), .second, .val (.int i)] [(.long (r * (10 : Int64)))]))
      refine own_Fin.step (fun _ => XS.lstoreN X0.here hx rfl (hb hby d1_14) rfl (l' := #[.val (.int p1), .val (.long (r * (10 : Int64))), .second, .val (.int i)]) rfl) ?_
      show own_Fin p e below s _ _ _ (s₁.setTop (mkF m 15 #[.val (.int p1), .val (.long (r * (10 : Int64))), .second, .val (.int i)] []))
      refine own_Fin.step (fun _ => XS.iinc X0.here hx rfl (hb hby d1_15) rfl (l' := #[.val (.int p1), .val (.long (r * (10 : Int64))), .second, .val (.int (i + (1 : Int32)))]) rfl) ?_
      show own_Fin p e below s _ _ _ (s₁.setTop (mkF m 18 #[.val (.int p1), .val (.long (r * (10 : Int64))), .second, .val (.int (i + (1 : Int32)))] []))
      refine own_Fin.step (fun _ => XS.goto X0.here hx rfl (pc0 := 18) (pc' := 4) rfl (hb hby d1_18) (by decide) (by decide)) ?_
      exact ih _ _ (own_next hi hk).2.1 (by rw [(own_next hi hk).2.2]; omega) (by rw [(own_next hi hk).2.2, hr]; rfl)
  show own_Fin p e below s _ _ _ (s₁.setTop (mkF m 0 #[.val (.int p1), .unset, .unset, .unset] []))
  refine own_Fin.step (fun _ => XS.lconst X0.here hx rfl (hb hby d1_0)) ?_
  show own_Fin p e below s _ _ _ (s₁.setTop (mkF m 1 #[.val (.int p1), .unset, .unset, .unset] [(.long (1 : Int64))]))
  refine own_Fin.step (fun _ => XS.lstoreN X0.here hx rfl (hb hby d1_1) rfl (l' := #[.val (.int p1), .val (.long (1 : Int64)), .second, .unset]) rfl) ?_
  show own_Fin p e below s _ _ _ (s₁.setTop (mkF m 2 #[.val (.int p1), .val (.long (1 : Int64)), .second, .unset] []))
  refine own_Fin.step (fun _ => XS.iconst X0.here hx rfl (hb hby d1_2)) ?_
  show own_Fin p e below s _ _ _ (s₁.setTop (mkF m 3 #[.val (.int p1), .val (.long (1 : Int64)), .second, .unset] [(.int (0 : Int32))]))
  refine own_Fin.step (fun _ => XS.istoreN X0.here hx rfl (hb hby d1_3) rfl (l' := #[.val (.int p1), .val (.long (1 : Int64)), .second, .val (.int (0 : Int32))]) rfl) ?_
  exact loop p1.toNatClampNeg _ _ (by decide) (by show 0 + _ = _; omega) rfl
theorem pn_0 : plainFor (⟨"com/example/raw_to_screen/rawtoscreen/mapping/RationalPowerOfTenPinLaw", "law", "(I)Z"⟩ : MethodName) = true := plainFor_of_name (by first | (simp [plainName, overriddenIn]; done) | decide +kernel)
theorem ef_0 (m : MethodId) (x0 : Int32) : entryFrame m #[(.int x0)] maxLocals = mkF m 0 #[.val (.int x0), .unset, .unset] [] := by first | (simp [entryFrame, mkF, argsToLocals, Value.category, maxLocals]; done) | rfl
theorem pd_0 : parseMethodDescriptor "(I)J" = some ⟨[.int], some .long⟩ := by decide +kernel
set_option maxRecDepth 65536 in
set_option maxHeartbeats 40000000 in
theorem rm0 (l : Launch) (Z : State) (a0 : Array Value) (hw : ∀ d ∈ tables_1, d.before a0 Z = true) (p1 : Int32)  (h0 : Heap) (n0 : Nat) (Z0 : n0 ≤ h0.size)  :
    own_Met l Z tables_1 x code maxLocals ret room_1 #[(.int p1)] h0 (own_Q0 n0) := by
  refine own_enter pn_0 ?_
  intro p e s m below meth c s₁ X0 hx hby hml hown hret hlk hnm hZ e0
  have hml : c.maxLocals = 3 := hml
  have N0 := Fr.nil n0
  rw [ef_0 m p1]
  show own_Fin p e below s _ _ _ (s₁.setTop (mkF m 0 #[.val (.int p1), .unset, .unset] []))
  refine own_Fin.step (fun _ => XS.iloadN X0.here hx rfl (hb hby at_0) rfl) ?_
  show own_Fin p e below s _ _ _ (s₁.setTop (mkF m 1 #[.val (.int p1), .unset, .unset] [(.int p1)]))
  refine own_Fin.step (X0.ldcInt hx hown (mvT hZ (own_w hw 0 rfl)) (g := (mkF m 1 #[.val (.int p1), .unset, .unset] [(.int p1)])) rfl (hb hby at_1)) ?_
  show own_Fin p e below s _ _ _ (s₁.setTop (mkF m 3 #[.val (.int p1), .unset, .unset] [(.int (2147483647 : Int32)), (.int p1)]))
  refine own_Fin.step (fun _ => XS.iand X0.here hx rfl (hb hby at_3) rfl) ?_
  show own_Fin p e below s _ _ _ (s₁.setTop (mkF m 4 #[.val (.int p1), .unset, .unset] [(.int (p1 &&& (2147483647 : Int32)))]))
  refine own_Fin.step (fun _ => XS.bipush X0.here hx rfl (hb hby at_4)) ?_
  show own_Fin p e below s _ _ _ (s₁.setTop (mkF m 6 #[.val (.int p1), .unset, .unset] [(.int (19 : Int32)), (.int (p1 &&& (2147483647 : Int32)))]))
  refine own_Fin.step (fun _ => Jvm.RoadKit.iremM X0 hx rfl (hb hby at_6) rfl (by decide)) ?_
  show own_Fin p e below s _ _ _ (s₁.setTop (mkF m 7 #[.val (.int p1), .unset, .unset] [(.int ((p1 &&& (2147483647 : Int32)) % (19 : Int32)))]))
  generalize hu : ((p1 &&& (2147483647 : Int32)) % (19 : Int32)) = u
  refine own_Fin.step (fun _ => XS.istoreN X0.here hx rfl (hb hby at_7) rfl (l' := #[.val (.int p1), .val (.int u), .unset]) rfl) ?_
  show own_Fin p e below s _ _ _ (s₁.setTop (mkF m 8 #[.val (.int p1), .val (.int u), .unset] []))
  refine own_Fin.step (fun _ => XS.bipush X0.here hx rfl (hb hby at_8)) ?_
  show own_Fin p e below s _ _ _ (s₁.setTop (mkF m 10 #[.val (.int p1), .val (.int u), .unset] [(.int (19 : Int32))]))
  obtain ⟨T1, h1, k1, b1, X1, e1, E1, g1, V1, st1⟩ := own_newA X0 hx hZ (own_w hw 1 rfl) e0 (ty := .long) (dv := (.long (0 : Int64))) rfl rfl (g := (mkF m 10 #[.val (.int p1), .val (.int u), .unset] [(.int (19 : Int32))])) rfl (hb hby at_10) rfl (by decide) (cap := 19) (by decide) (by decide) (by decide) (by decide) (19)
  have ge2 : n0 ≤ b1 := Nat.le_trans Z0 (Nat.le_of_eq g1.symm)
  have Z1 : n0 ≤ h1.size := Nat.le_trans Z0 E1.1
  have V1' : Arv Z h1 b1 k1 .long (19 : Int32) [(.long (0 : Int64)), (.long (0 : Int64)), (.long (0 : Int64)), (.long (0 : Int64)), (.long (0 : Int64)), (.long (0 : Int64)), (.long (0 : Int64)), (.long (0 : Int64)), (.long (0 : Int64)), (.long (0 : Int64)), (.long (0 : Int64)), (.long (0 : Int64)), (.long (0 : Int64)), (.long (0 : Int64)), (.long (0 : Int64)), (.long (0 : Int64)), (.long (0 : Int64)), (.long (0 : Int64)), (.long (0 : Int64))] (.long (0 : Int64)) := V1
  refine own_Fin.step st1 ?_
  show own_Fin p e below s _ _ _ (T1.setTop (mkF m 12 #[.val (.int p1), .val (.int u), .unset] [(.ref b1)]))
  refine own_Fin.step (fun _ => XS.dup X1.here hx rfl (hb hby at_12) rfl rfl) ?_
  show own_Fin p e below s _ _ _ (T1.setTop (mkF m 13 #[.val (.int p1), .val (.int u), .unset] [(.ref b1), (.ref b1)]))
  refine own_Fin.step (fun _ => XS.iconst X1.here hx rfl (hb hby at_13)) ?_
  show own_Fin p e below s _ _ _ (T1.setTop (mkF m 14 #[.val (.int p1), .val (.int u), .unset] [(.int (0 : Int32)), (.ref b1), (.ref b1)]))
  refine own_Fin.step (fun _ => XS.lconst X1.here hx rfl (hb hby at_14)) ?_
  show own_Fin p e below s _ _ _ (T1.setTop (mkF m 15 #[.val (.int p1), .val (.int u), .unset] [(.long (1 : Int64)), (.int (0 : Int32)), (.ref b1), (.ref b1)]))
  obtain ⟨T3, h3, X3, e3, V3, W3, st3⟩ := own_stJ X1 hx hZ e1 V1' (j := (0 : Int32)) ⟨by decide, by decide⟩ (0) rfl (Nat.le_of_ble_eq_true rfl) (g := (mkF m 15 #[.val (.int p1), .val (.int u), .unset] [(.long (1 : Int64)), (.int (0 : Int32)), (.ref b1), (.ref b1)])) rfl rfl (hb hby at_15)
  have V3' : Arv Z h3 b1 k1 .long (19 : Int32) [(.long (1 : Int64)), (.long (0 : Int64)), (.long (0 : Int64)), (.long (0 : Int64)), (.long (0 : Int64)), (.long (0 : Int64)), (.long (0 : Int64)), (.long (0 : Int64)), (.long (0 : Int64)), (.long (0 : Int64)), (.long (0 : Int64)), (.long (0 : Int64)), (.long (0 : Int64)), (.long (0 : Int64)), (.long (0 : Int64)), (.long (0 : Int64)), (.long (0 : Int64)), (.long (0 : Int64)), (.long (0 : Int64))] (.long (0 : Int64)) := V3
  have N3 := Fr.snoc X3 N0 ge2
  have Z3 : n0 ≤ h3.size := Nat.le_trans Z1 (Nat.le_of_eq W3.size.symm)
  refine own_Fin.step st3 ?_
  show own_Fin p e below s _ _ _ (T3.setTop (mkF m 16 #[.val (.int p1), .val (.int u), .unset] [(.ref b1)]))
  refine own_Fin.step (fun _ => XS.dup X3.here hx rfl (hb hby at_16) rfl rfl) ?_
  show own_Fin p e below s _ _ _ (T3.setTop (mkF m 17 #[.val (.int p1), .val (.int u), .unset] [(.ref b1), (.ref b1)]))
  refine own_Fin.step (fun _ => XS.iconst X3.here hx rfl (hb hby at_17)) ?_
  show own_Fin p e below s _ _ _ (T3.setTop (mkF m 18 #[.val (.int p1), .val (.int u), .unset] [(.int (1 : Int32)), (.ref b1), (.ref b1)]))
  refine own_Fin.step (X3.ldc2Long hx hown (mvT hZ (own_w hw 2 rfl)) (g := (mkF m 18 #[.val (.int p1), .val (.int u), .unset] [(.int (1 : Int32)), (.ref b1), (.ref b1)])) rfl (hb hby at_18)) ?_
  show own_Fin p e below s _ _ _ (T3.setTop (mkF m 21 #[.val (.int p1), .val (.int u), .unset] [(.long (10 : Int64)), (.int (1 : Int32)), (.ref b1), (.ref b1)]))
  obtain ⟨T5, h5, X5, e5, V5, W5, st5⟩ := own_stJ X3 hx hZ e3 V3' (j := (1 : Int32)) ⟨by decide, by decide⟩ (1) rfl (Nat.le_of_ble_eq_true rfl) (g := (mkF m 21 #[.val (.int p1), .val (.int u), .unset] [(.long (10 : Int64)), (.int (1 : Int32)), (.ref b1), (.ref b1)])) rfl rfl (hb hby at_21)
  have V5' : Arv Z h5 b1 k1 .long (19 : Int32) [(.long (1 : Int64)), (.long (10 : Int64)), (.long (0 : Int64)), (.long (0 : Int64)), (.long (0 : Int64)), (.long (0 : Int64)), (.long (0 : Int64)), (.long (0 : Int64)), (.long (0 : Int64)), (.long (0 : Int64)), (.long (0 : Int64)), (.long (0 : Int64)), (.long (0 : Int64)), (.long (0 : Int64)), (.long (0 : Int64)), (.long (0 : Int64)), (.long (0 : Int64)), (.long (0 : Int64)), (.long (0 : Int64))] (.long (0 : Int64)) := V5
  have N5 := Fr.snoc X5 N3 ge2
  have Z5 : n0 ≤ h5.size := Nat.le_trans Z3 (Nat.le_of_eq W5.size.symm)
  refine own_Fin.step st5 ?_
  show own_Fin p e below s _ _ _ (T5.setTop (mkF m 22 #[.val (.int p1), .val (.int u), .unset] [(.ref b1)]))
  refine own_Fin.step (fun _ => XS.dup X5.here hx rfl (hb hby at_22) rfl rfl) ?_
  show own_Fin p e below s _ _ _ (T5.setTop (mkF m 23 #[.val (.int p1), .val (.int u), .unset] [(.ref b1), (.ref b1)]))
  refine own_Fin.step (fun _ => XS.iconst X5.here hx rfl (hb hby at_23)) ?_
  show own_Fin p e below s _ _ _ (T5.setTop (mkF m 24 #[.val (.int p1), .val (.int u), .unset] [(.int (2 : Int32)), (.ref b1), (.ref b1)]))
  refine own_Fin.step (X5.ldc2Long hx hown (mvT hZ (own_w hw 3 rfl)) (g := (mkF m 24 #[.val (.int p1), .val (.int u), .unset] [(.int (2 : Int32)), (.ref b1), (.ref b1)])) rfl (hb hby at_24)) ?_
  show own_Fin p e below s _ _ _ (T5.setTop (mkF m 27 #[.val (.int p1), .val (.int u), .unset] [(.long (100 : Int64)), (.int (2 : Int32)), (.ref b1), (.ref b1)]))
  obtain ⟨T7, h7, X7, e7, V7, W7, st7⟩ := own_stJ X5 hx hZ e5 V5' (j := (2 : Int32)) ⟨by decide, by decide⟩ (2) rfl (Nat.le_of_ble_eq_true rfl) (g := (mkF m 27 #[.val (.int p1), .val (.int u), .unset] [(.long (100 : Int64)), (.int (2 : Int32)), (.ref b1), (.ref b1)])) rfl rfl (hb hby at_27)
  have V7' : Arv Z h7 b1 k1 .long (19 : Int32) [(.long (1 : Int64)), (.long (10 : Int64)), (.long (100 : Int64)), (.long (0 : Int64)), (.long (0 : Int64)), (.long (0 : Int64)), (.long (0 : Int64)), (.long (0 : Int64)), (.long (0 : Int64)), (.long (0 : Int64)), (.long (0 : Int64)), (.long (0 : Int64)), (.long (0 : Int64)), (.long (0 : Int64)), (.long (0 : Int64)), (.long (0 : Int64)), (.long (0 : Int64)), (.long (0 : Int64)), (.long (0 : Int64))] (.long (0 : Int64)) := V7
  have N7 := Fr.snoc X7 N5 ge2
  have Z7 : n0 ≤ h7.size := Nat.le_trans Z5 (Nat.le_of_eq W7.size.symm)
  refine own_Fin.step st7 ?_
  show own_Fin p e below s _ _ _ (T7.setTop (mkF m 28 #[.val (.int p1), .val (.int u), .unset] [(.ref b1)]))
  refine own_Fin.step (fun _ => XS.dup X7.here hx rfl (hb hby at_28) rfl rfl) ?_
  show own_Fin p e below s _ _ _ (T7.setTop (mkF m 29 #[.val (.int p1), .val (.int u), .unset] [(.ref b1), (.ref b1)]))
  refine own_Fin.step (fun _ => XS.iconst X7.here hx rfl (hb hby at_29)) ?_
  show own_Fin p e below s _ _ _ (T7.setTop (mkF m 30 #[.val (.int p1), .val (.int u), .unset] [(.int (3 : Int32)), (.ref b1), (.ref b1)]))
  refine own_Fin.step (X7.ldc2Long hx hown (mvT hZ (own_w hw 4 rfl)) (g := (mkF m 30 #[.val (.int p1), .val (.int u), .unset] [(.int (3 : Int32)), (.ref b1), (.ref b1)])) rfl (hb hby at_30)) ?_
  show own_Fin p e below s _ _ _ (T7.setTop (mkF m 33 #[.val (.int p1), .val (.int u), .unset] [(.long (1000 : Int64)), (.int (3 : Int32)), (.ref b1), (.ref b1)]))
  obtain ⟨T9, h9, X9, e9, V9, W9, st9⟩ := own_stJ X7 hx hZ e7 V7' (j := (3 : Int32)) ⟨by decide, by decide⟩ (3) rfl (Nat.le_of_ble_eq_true rfl) (g := (mkF m 33 #[.val (.int p1), .val (.int u), .unset] [(.long (1000 : Int64)), (.int (3 : Int32)), (.ref b1), (.ref b1)])) rfl rfl (hb hby at_33)
  have V9' : Arv Z h9 b1 k1 .long (19 : Int32) [(.long (1 : Int64)), (.long (10 : Int64)), (.long (100 : Int64)), (.long (1000 : Int64)), (.long (0 : Int64)), (.long (0 : Int64)), (.long (0 : Int64)), (.long (0 : Int64)), (.long (0 : Int64)), (.long (0 : Int64)), (.long (0 : Int64)), (.long (0 : Int64)), (.long (0 : Int64)), (.long (0 : Int64)), (.long (0 : Int64)), (.long (0 : Int64)), (.long (0 : Int64)), (.long (0 : Int64)), (.long (0 : Int64))] (.long (0 : Int64)) := V9
  have N9 := Fr.snoc X9 N7 ge2
  have Z9 : n0 ≤ h9.size := Nat.le_trans Z7 (Nat.le_of_eq W9.size.symm)
  refine own_Fin.step st9 ?_
  show own_Fin p e below s _ _ _ (T9.setTop (mkF m 34 #[.val (.int p1), .val (.int u), .unset] [(.ref b1)]))
  refine own_Fin.step (fun _ => XS.dup X9.here hx rfl (hb hby at_34) rfl rfl) ?_
  show own_Fin p e below s _ _ _ (T9.setTop (mkF m 35 #[.val (.int p1), .val (.int u), .unset] [(.ref b1), (.ref b1)]))
  refine own_Fin.step (fun _ => XS.iconst X9.here hx rfl (hb hby at_35)) ?_
  show own_Fin p e below s _ _ _ (T9.setTop (mkF m 36 #[.val (.int p1), .val (.int u), .unset] [(.int (4 : Int32)), (.ref b1), (.ref b1)]))
  refine own_Fin.step (X9.ldc2Long hx hown (mvT hZ (own_w hw 5 rfl)) (g := (mkF m 36 #[.val (.int p1), .val (.int u), .unset] [(.int (4 : Int32)), (.ref b1), (.ref b1)])) rfl (hb hby at_36)) ?_
  show own_Fin p e below s _ _ _ (T9.setTop (mkF m 39 #[.val (.int p1), .val (.int u), .unset] [(.long (10000 : Int64)), (.int (4 : Int32)), (.ref b1), (.ref b1)]))
  obtain ⟨T11, h11, X11, e11, V11, W11, st11⟩ := own_stJ X9 hx hZ e9 V9' (j := (4 : Int32)) ⟨by decide, by decide⟩ (4) rfl (Nat.le_of_ble_eq_true rfl) (g := (mkF m 39 #[.val (.int p1), .val (.int u), .unset] [(.long (10000 : Int64)), (.int (4 : Int32)), (.ref b1), (.ref b1)])) rfl rfl (hb hby at_39)
  have V11' : Arv Z h11 b1 k1 .long (19 : Int32) [(.long (1 : Int64)), (.long (10 : Int64)), (.long (100 : Int64)), (.long (1000 : Int64)), (.long (10000 : Int64)), (.long (0 : Int64)), (.long (0 : Int64)), (.long (0 : Int64)), (.long (0 : Int64)), (.long (0 : Int64)), (.long (0 : Int64)), (.long (0 : Int64)), (.long (0 : Int64)), (.long (0 : Int64)), (.long (0 : Int64)), (.long (0 : Int64)), (.long (0 : Int64)), (.long (0 : Int64)), (.long (0 : Int64))] (.long (0 : Int64)) := V11
  have N11 := Fr.snoc X11 N9 ge2
  have Z11 : n0 ≤ h11.size := Nat.le_trans Z9 (Nat.le_of_eq W11.size.symm)
  refine own_Fin.step st11 ?_
  show own_Fin p e below s _ _ _ (T11.setTop (mkF m 40 #[.val (.int p1), .val (.int u), .unset] [(.ref b1)]))
  refine own_Fin.step (fun _ => XS.dup X11.here hx rfl (hb hby at_40) rfl rfl) ?_
  show own_Fin p e below s _ _ _ (T11.setTop (mkF m 41 #[.val (.int p1), .val (.int u), .unset] [(.ref b1), (.ref b1)]))
  refine own_Fin.step (fun _ => XS.iconst X11.here hx rfl (hb hby at_41)) ?_
  show own_Fin p e below s _ _ _ (T11.setTop (mkF m 42 #[.val (.int p1), .val (.int u), .unset] [(.int (5 : Int32)), (.ref b1), (.ref b1)]))
  refine own_Fin.step (X11.ldc2Long hx hown (mvT hZ (own_w hw 6 rfl)) (g := (mkF m 42 #[.val (.int p1), .val (.int u), .unset] [(.int (5 : Int32)), (.ref b1), (.ref b1)])) rfl (hb hby at_42)) ?_
  show own_Fin p e below s _ _ _ (T11.setTop (mkF m 45 #[.val (.int p1), .val (.int u), .unset] [(.long (100000 : Int64)), (.int (5 : Int32)), (.ref b1), (.ref b1)]))
  obtain ⟨T13, h13, X13, e13, V13, W13, st13⟩ := own_stJ X11 hx hZ e11 V11' (j := (5 : Int32)) ⟨by decide, by decide⟩ (5) rfl (Nat.le_of_ble_eq_true rfl) (g := (mkF m 45 #[.val (.int p1), .val (.int u), .unset] [(.long (100000 : Int64)), (.int (5 : Int32)), (.ref b1), (.ref b1)])) rfl rfl (hb hby at_45)
  have V13' : Arv Z h13 b1 k1 .long (19 : Int32) [(.long (1 : Int64)), (.long (10 : Int64)), (.long (100 : Int64)), (.long (1000 : Int64)), (.long (10000 : Int64)), (.long (100000 : Int64)), (.long (0 : Int64)), (.long (0 : Int64)), (.long (0 : Int64)), (.long (0 : Int64)), (.long (0 : Int64)), (.long (0 : Int64)), (.long (0 : Int64)), (.long (0 : Int64)), (.long (0 : Int64)), (.long (0 : Int64)), (.long (0 : Int64)), (.long (0 : Int64)), (.long (0 : Int64))] (.long (0 : Int64)) := V13
  have N13 := Fr.snoc X13 N11 ge2
  have Z13 : n0 ≤ h13.size := Nat.le_trans Z11 (Nat.le_of_eq W13.size.symm)
  refine own_Fin.step st13 ?_
  show own_Fin p e below s _ _ _ (T13.setTop (mkF m 46 #[.val (.int p1), .val (.int u), .unset] [(.ref b1)]))
  refine own_Fin.step (fun _ => XS.dup X13.here hx rfl (hb hby at_46) rfl rfl) ?_
  show own_Fin p e below s _ _ _ (T13.setTop (mkF m 47 #[.val (.int p1), .val (.int u), .unset] [(.ref b1), (.ref b1)]))
  refine own_Fin.step (fun _ => XS.bipush X13.here hx rfl (hb hby at_47)) ?_
  show own_Fin p e below s _ _ _ (T13.setTop (mkF m 49 #[.val (.int p1), .val (.int u), .unset] [(.int (6 : Int32)), (.ref b1), (.ref b1)]))
  refine own_Fin.step (X13.ldc2Long hx hown (mvT hZ (own_w hw 7 rfl)) (g := (mkF m 49 #[.val (.int p1), .val (.int u), .unset] [(.int (6 : Int32)), (.ref b1), (.ref b1)])) rfl (hb hby at_49)) ?_
  show own_Fin p e below s _ _ _ (T13.setTop (mkF m 52 #[.val (.int p1), .val (.int u), .unset] [(.long (1000000 : Int64)), (.int (6 : Int32)), (.ref b1), (.ref b1)]))
  obtain ⟨T15, h15, X15, e15, V15, W15, st15⟩ := own_stJ X13 hx hZ e13 V13' (j := (6 : Int32)) ⟨by decide, by decide⟩ (6) rfl (Nat.le_of_ble_eq_true rfl) (g := (mkF m 52 #[.val (.int p1), .val (.int u), .unset] [(.long (1000000 : Int64)), (.int (6 : Int32)), (.ref b1), (.ref b1)])) rfl rfl (hb hby at_52)
  have V15' : Arv Z h15 b1 k1 .long (19 : Int32) [(.long (1 : Int64)), (.long (10 : Int64)), (.long (100 : Int64)), (.long (1000 : Int64)), (.long (10000 : Int64)), (.long (100000 : Int64)), (.long (1000000 : Int64)), (.long (0 : Int64)), (.long (0 : Int64)), (.long (0 : Int64)), (.long (0 : Int64)), (.long (0 : Int64)), (.long (0 : Int64)), (.long (0 : Int64)), (.long (0 : Int64)), (.long (0 : Int64)), (.long (0 : Int64)), (.long (0 : Int64)), (.long (0 : Int64))] (.long (0 : Int64)) := V15
  have N15 := Fr.snoc X15 N13 ge2
  have Z15 : n0 ≤ h15.size := Nat.le_trans Z13 (Nat.le_of_eq W15.size.symm)
  refine own_Fin.step st15 ?_
  show own_Fin p e below s _ _ _ (T15.setTop (mkF m 53 #[.val (.int p1), .val (.int u), .unset] [(.ref b1)]))
  refine own_Fin.step (fun _ => XS.dup X15.here hx rfl (hb hby at_53) rfl rfl) ?_
  show own_Fin p e below s _ _ _ (T15.setTop (mkF m 54 #[.val (.int p1), .val (.int u), .unset] [(.ref b1), (.ref b1)]))
  refine own_Fin.step (fun _ => XS.bipush X15.here hx rfl (hb hby at_54)) ?_
  show own_Fin p e below s _ _ _ (T15.setTop (mkF m 56 #[.val (.int p1), .val (.int u), .unset] [(.int (7 : Int32)), (.ref b1), (.ref b1)]))
  refine own_Fin.step (X15.ldc2Long hx hown (mvT hZ (own_w hw 8 rfl)) (g := (mkF m 56 #[.val (.int p1), .val (.int u), .unset] [(.int (7 : Int32)), (.ref b1), (.ref b1)])) rfl (hb hby at_56)) ?_
  show own_Fin p e below s _ _ _ (T15.setTop (mkF m 59 #[.val (.int p1), .val (.int u), .unset] [(.long (10000000 : Int64)), (.int (7 : Int32)), (.ref b1), (.ref b1)]))
  obtain ⟨T17, h17, X17, e17, V17, W17, st17⟩ := own_stJ X15 hx hZ e15 V15' (j := (7 : Int32)) ⟨by decide, by decide⟩ (7) rfl (Nat.le_of_ble_eq_true rfl) (g := (mkF m 59 #[.val (.int p1), .val (.int u), .unset] [(.long (10000000 : Int64)), (.int (7 : Int32)), (.ref b1), (.ref b1)])) rfl rfl (hb hby at_59)
  have V17' : Arv Z h17 b1 k1 .long (19 : Int32) [(.long (1 : Int64)), (.long (10 : Int64)), (.long (100 : Int64)), (.long (1000 : Int64)), (.long (10000 : Int64)), (.long (100000 : Int64)), (.long (1000000 : Int64)), (.long (10000000 : Int64)), (.long (0 : Int64)), (.long (0 : Int64)), (.long (0 : Int64)), (.long (0 : Int64)), (.long (0 : Int64)), (.long (0 : Int64)), (.long (0 : Int64)), (.long (0 : Int64)), (.long (0 : Int64)), (.long (0 : Int64)), (.long (0 : Int64))] (.long (0 : Int64)) := V17
  have N17 := Fr.snoc X17 N15 ge2
  have Z17 : n0 ≤ h17.size := Nat.le_trans Z15 (Nat.le_of_eq W17.size.symm)
  refine own_Fin.step st17 ?_
  show own_Fin p e below s _ _ _ (T17.setTop (mkF m 60 #[.val (.int p1), .val (.int u), .unset] [(.ref b1)]))
  refine own_Fin.step (fun _ => XS.dup X17.here hx rfl (hb hby at_60) rfl rfl) ?_
  show own_Fin p e below s _ _ _ (T17.setTop (mkF m 61 #[.val (.int p1), .val (.int u), .unset] [(.ref b1), (.ref b1)]))
  refine own_Fin.step (fun _ => XS.bipush X17.here hx rfl (hb hby at_61)) ?_
  show own_Fin p e below s _ _ _ (T17.setTop (mkF m 63 #[.val (.int p1), .val (.int u), .unset] [(.int (8 : Int32)), (.ref b1), (.ref b1)]))
  refine own_Fin.step (X17.ldc2Long hx hown (mvT hZ (own_w hw 9 rfl)) (g := (mkF m 63 #[.val (.int p1), .val (.int u), .unset] [(.int (8 : Int32)), (.ref b1), (.ref b1)])) rfl (hb hby at_63)) ?_
  show own_Fin p e below s _ _ _ (T17.setTop (mkF m 66 #[.val (.int p1), .val (.int u), .unset] [(.long (100000000 : Int64)), (.int (8 : Int32)), (.ref b1), (.ref b1)]))
  obtain ⟨T19, h19, X19, e19, V19, W19, st19⟩ := own_stJ X17 hx hZ e17 V17' (j := (8 : Int32)) ⟨by decide, by decide⟩ (8) rfl (Nat.le_of_ble_eq_true rfl) (g := (mkF m 66 #[.val (.int p1), .val (.int u), .unset] [(.long (100000000 : Int64)), (.int (8 : Int32)), (.ref b1), (.ref b1)])) rfl rfl (hb hby at_66)
  have V19' : Arv Z h19 b1 k1 .long (19 : Int32) [(.long (1 : Int64)), (.long (10 : Int64)), (.long (100 : Int64)), (.long (1000 : Int64)), (.long (10000 : Int64)), (.long (100000 : Int64)), (.long (1000000 : Int64)), (.long (10000000 : Int64)), (.long (100000000 : Int64)), (.long (0 : Int64)), (.long (0 : Int64)), (.long (0 : Int64)), (.long (0 : Int64)), (.long (0 : Int64)), (.long (0 : Int64)), (.long (0 : Int64)), (.long (0 : Int64)), (.long (0 : Int64)), (.long (0 : Int64))] (.long (0 : Int64)) := V19
  have N19 := Fr.snoc X19 N17 ge2
  have Z19 : n0 ≤ h19.size := Nat.le_trans Z17 (Nat.le_of_eq W19.size.symm)
  refine own_Fin.step st19 ?_
  show own_Fin p e below s _ _ _ (T19.setTop (mkF m 67 #[.val (.int p1), .val (.int u), .unset] [(.ref b1)]))
  refine own_Fin.step (fun _ => XS.dup X19.here hx rfl (hb hby at_67) rfl rfl) ?_
  show own_Fin p e below s _ _ _ (T19.setTop (mkF m 68 #[.val (.int p1), .val (.int u), .unset] [(.ref b1), (.ref b1)]))
  refine own_Fin.step (fun _ => XS.bipush X19.here hx rfl (hb hby at_68)) ?_
  show own_Fin p e below s _ _ _ (T19.setTop (mkF m 70 #[.val (.int p1), .val (.int u), .unset] [(.int (9 : Int32)), (.ref b1), (.ref b1)]))
  refine own_Fin.step (X19.ldc2Long hx hown (mvT hZ (own_w hw 10 rfl)) (g := (mkF m 70 #[.val (.int p1), .val (.int u), .unset] [(.int (9 : Int32)), (.ref b1), (.ref b1)])) rfl (hb hby at_70)) ?_
  show own_Fin p e below s _ _ _ (T19.setTop (mkF m 73 #[.val (.int p1), .val (.int u), .unset] [(.long (1000000000 : Int64)), (.int (9 : Int32)), (.ref b1), (.ref b1)]))
  obtain ⟨T21, h21, X21, e21, V21, W21, st21⟩ := own_stJ X19 hx hZ e19 V19' (j := (9 : Int32)) ⟨by decide, by decide⟩ (9) rfl (Nat.le_of_ble_eq_true rfl) (g := (mkF m 73 #[.val (.int p1), .val (.int u), .unset] [(.long (1000000000 : Int64)), (.int (9 : Int32)), (.ref b1), (.ref b1)])) rfl rfl (hb hby at_73)
  have V21' : Arv Z h21 b1 k1 .long (19 : Int32) [(.long (1 : Int64)), (.long (10 : Int64)), (.long (100 : Int64)), (.long (1000 : Int64)), (.long (10000 : Int64)), (.long (100000 : Int64)), (.long (1000000 : Int64)), (.long (10000000 : Int64)), (.long (100000000 : Int64)), (.long (1000000000 : Int64)), (.long (0 : Int64)), (.long (0 : Int64)), (.long (0 : Int64)), (.long (0 : Int64)), (.long (0 : Int64)), (.long (0 : Int64)), (.long (0 : Int64)), (.long (0 : Int64)), (.long (0 : Int64))] (.long (0 : Int64)) := V21
  have N21 := Fr.snoc X21 N19 ge2
  have Z21 : n0 ≤ h21.size := Nat.le_trans Z19 (Nat.le_of_eq W21.size.symm)
  refine own_Fin.step st21 ?_
  show own_Fin p e below s _ _ _ (T21.setTop (mkF m 74 #[.val (.int p1), .val (.int u), .unset] [(.ref b1)]))
  refine own_Fin.step (fun _ => XS.dup X21.here hx rfl (hb hby at_74) rfl rfl) ?_
  show own_Fin p e below s _ _ _ (T21.setTop (mkF m 75 #[.val (.int p1), .val (.int u), .unset] [(.ref b1), (.ref b1)]))
  refine own_Fin.step (fun _ => XS.bipush X21.here hx rfl (hb hby at_75)) ?_
  show own_Fin p e below s _ _ _ (T21.setTop (mkF m 77 #[.val (.int p1), .val (.int u), .unset] [(.int (10 : Int32)), (.ref b1), (.ref b1)]))
  refine own_Fin.step (X21.ldc2Long hx hown (mvT hZ (own_w hw 11 rfl)) (g := (mkF m 77 #[.val (.int p1), .val (.int u), .unset] [(.int (10 : Int32)), (.ref b1), (.ref b1)])) rfl (hb hby at_77)) ?_
  show own_Fin p e below s _ _ _ (T21.setTop (mkF m 80 #[.val (.int p1), .val (.int u), .unset] [(.long (10000000000 : Int64)), (.int (10 : Int32)), (.ref b1), (.ref b1)]))
  obtain ⟨T23, h23, X23, e23, V23, W23, st23⟩ := own_stJ X21 hx hZ e21 V21' (j := (10 : Int32)) ⟨by decide, by decide⟩ (10) rfl (Nat.le_of_ble_eq_true rfl) (g := (mkF m 80 #[.val (.int p1), .val (.int u), .unset] [(.long (10000000000 : Int64)), (.int (10 : Int32)), (.ref b1), (.ref b1)])) rfl rfl (hb hby at_80)
  have V23' : Arv Z h23 b1 k1 .long (19 : Int32) [(.long (1 : Int64)), (.long (10 : Int64)), (.long (100 : Int64)), (.long (1000 : Int64)), (.long (10000 : Int64)), (.long (100000 : Int64)), (.long (1000000 : Int64)), (.long (10000000 : Int64)), (.long (100000000 : Int64)), (.long (1000000000 : Int64)), (.long (10000000000 : Int64)), (.long (0 : Int64)), (.long (0 : Int64)), (.long (0 : Int64)), (.long (0 : Int64)), (.long (0 : Int64)), (.long (0 : Int64)), (.long (0 : Int64)), (.long (0 : Int64))] (.long (0 : Int64)) := V23
  have N23 := Fr.snoc X23 N21 ge2
  have Z23 : n0 ≤ h23.size := Nat.le_trans Z21 (Nat.le_of_eq W23.size.symm)
  refine own_Fin.step st23 ?_
  show own_Fin p e below s _ _ _ (T23.setTop (mkF m 81 #[.val (.int p1), .val (.int u), .unset] [(.ref b1)]))
  refine own_Fin.step (fun _ => XS.dup X23.here hx rfl (hb hby at_81) rfl rfl) ?_
  show own_Fin p e below s _ _ _ (T23.setTop (mkF m 82 #[.val (.int p1), .val (.int u), .unset] [(.ref b1), (.ref b1)]))
  refine own_Fin.step (fun _ => XS.bipush X23.here hx rfl (hb hby at_82)) ?_
  show own_Fin p e below s _ _ _ (T23.setTop (mkF m 84 #[.val (.int p1), .val (.int u), .unset] [(.int (11 : Int32)), (.ref b1), (.ref b1)]))
  refine own_Fin.step (X23.ldc2Long hx hown (mvT hZ (own_w hw 12 rfl)) (g := (mkF m 84 #[.val (.int p1), .val (.int u), .unset] [(.int (11 : Int32)), (.ref b1), (.ref b1)])) rfl (hb hby at_84)) ?_
  show own_Fin p e below s _ _ _ (T23.setTop (mkF m 87 #[.val (.int p1), .val (.int u), .unset] [(.long (100000000000 : Int64)), (.int (11 : Int32)), (.ref b1), (.ref b1)]))
  obtain ⟨T25, h25, X25, e25, V25, W25, st25⟩ := own_stJ X23 hx hZ e23 V23' (j := (11 : Int32)) ⟨by decide, by decide⟩ (11) rfl (Nat.le_of_ble_eq_true rfl) (g := (mkF m 87 #[.val (.int p1), .val (.int u), .unset] [(.long (100000000000 : Int64)), (.int (11 : Int32)), (.ref b1), (.ref b1)])) rfl rfl (hb hby at_87)
  have V25' : Arv Z h25 b1 k1 .long (19 : Int32) [(.long (1 : Int64)), (.long (10 : Int64)), (.long (100 : Int64)), (.long (1000 : Int64)), (.long (10000 : Int64)), (.long (100000 : Int64)), (.long (1000000 : Int64)), (.long (10000000 : Int64)), (.long (100000000 : Int64)), (.long (1000000000 : Int64)), (.long (10000000000 : Int64)), (.long (100000000000 : Int64)), (.long (0 : Int64)), (.long (0 : Int64)), (.long (0 : Int64)), (.long (0 : Int64)), (.long (0 : Int64)), (.long (0 : Int64)), (.long (0 : Int64))] (.long (0 : Int64)) := V25
  have N25 := Fr.snoc X25 N23 ge2
  have Z25 : n0 ≤ h25.size := Nat.le_trans Z23 (Nat.le_of_eq W25.size.symm)
  refine own_Fin.step st25 ?_
  show own_Fin p e below s _ _ _ (T25.setTop (mkF m 88 #[.val (.int p1), .val (.int u), .unset] [(.ref b1)]))
  refine own_Fin.step (fun _ => XS.dup X25.here hx rfl (hb hby at_88) rfl rfl) ?_
  show own_Fin p e below s _ _ _ (T25.setTop (mkF m 89 #[.val (.int p1), .val (.int u), .unset] [(.ref b1), (.ref b1)]))
  refine own_Fin.step (fun _ => XS.bipush X25.here hx rfl (hb hby at_89)) ?_
  show own_Fin p e below s _ _ _ (T25.setTop (mkF m 91 #[.val (.int p1), .val (.int u), .unset] [(.int (12 : Int32)), (.ref b1), (.ref b1)]))
  refine own_Fin.step (X25.ldc2Long hx hown (mvT hZ (own_w hw 13 rfl)) (g := (mkF m 91 #[.val (.int p1), .val (.int u), .unset] [(.int (12 : Int32)), (.ref b1), (.ref b1)])) rfl (hb hby at_91)) ?_
  show own_Fin p e below s _ _ _ (T25.setTop (mkF m 94 #[.val (.int p1), .val (.int u), .unset] [(.long (1000000000000 : Int64)), (.int (12 : Int32)), (.ref b1), (.ref b1)]))
  obtain ⟨T27, h27, X27, e27, V27, W27, st27⟩ := own_stJ X25 hx hZ e25 V25' (j := (12 : Int32)) ⟨by decide, by decide⟩ (12) rfl (Nat.le_of_ble_eq_true rfl) (g := (mkF m 94 #[.val (.int p1), .val (.int u), .unset] [(.long (1000000000000 : Int64)), (.int (12 : Int32)), (.ref b1), (.ref b1)])) rfl rfl (hb hby at_94)
  have V27' : Arv Z h27 b1 k1 .long (19 : Int32) [(.long (1 : Int64)), (.long (10 : Int64)), (.long (100 : Int64)), (.long (1000 : Int64)), (.long (10000 : Int64)), (.long (100000 : Int64)), (.long (1000000 : Int64)), (.long (10000000 : Int64)), (.long (100000000 : Int64)), (.long (1000000000 : Int64)), (.long (10000000000 : Int64)), (.long (100000000000 : Int64)), (.long (1000000000000 : Int64)), (.long (0 : Int64)), (.long (0 : Int64)), (.long (0 : Int64)), (.long (0 : Int64)), (.long (0 : Int64)), (.long (0 : Int64))] (.long (0 : Int64)) := V27
  have N27 := Fr.snoc X27 N25 ge2
  have Z27 : n0 ≤ h27.size := Nat.le_trans Z25 (Nat.le_of_eq W27.size.symm)
  refine own_Fin.step st27 ?_
  show own_Fin p e below s _ _ _ (T27.setTop (mkF m 95 #[.val (.int p1), .val (.int u), .unset] [(.ref b1)]))
  refine own_Fin.step (fun _ => XS.dup X27.here hx rfl (hb hby at_95) rfl rfl) ?_
  show own_Fin p e below s _ _ _ (T27.setTop (mkF m 96 #[.val (.int p1), .val (.int u), .unset] [(.ref b1), (.ref b1)]))
  refine own_Fin.step (fun _ => XS.bipush X27.here hx rfl (hb hby at_96)) ?_
  show own_Fin p e below s _ _ _ (T27.setTop (mkF m 98 #[.val (.int p1), .val (.int u), .unset] [(.int (13 : Int32)), (.ref b1), (.ref b1)]))
  refine own_Fin.step (X27.ldc2Long hx hown (mvT hZ (own_w hw 14 rfl)) (g := (mkF m 98 #[.val (.int p1), .val (.int u), .unset] [(.int (13 : Int32)), (.ref b1), (.ref b1)])) rfl (hb hby at_98)) ?_
  show own_Fin p e below s _ _ _ (T27.setTop (mkF m 101 #[.val (.int p1), .val (.int u), .unset] [(.long (10000000000000 : Int64)), (.int (13 : Int32)), (.ref b1), (.ref b1)]))
  obtain ⟨T29, h29, X29, e29, V29, W29, st29⟩ := own_stJ X27 hx hZ e27 V27' (j := (13 : Int32)) ⟨by decide, by decide⟩ (13) rfl (Nat.le_of_ble_eq_true rfl) (g := (mkF m 101 #[.val (.int p1), .val (.int u), .unset] [(.long (10000000000000 : Int64)), (.int (13 : Int32)), (.ref b1), (.ref b1)])) rfl rfl (hb hby at_101)
  have V29' : Arv Z h29 b1 k1 .long (19 : Int32) [(.long (1 : Int64)), (.long (10 : Int64)), (.long (100 : Int64)), (.long (1000 : Int64)), (.long (10000 : Int64)), (.long (100000 : Int64)), (.long (1000000 : Int64)), (.long (10000000 : Int64)), (.long (100000000 : Int64)), (.long (1000000000 : Int64)), (.long (10000000000 : Int64)), (.long (100000000000 : Int64)), (.long (1000000000000 : Int64)), (.long (10000000000000 : Int64)), (.long (0 : Int64)), (.long (0 : Int64)), (.long (0 : Int64)), (.long (0 : Int64)), (.long (0 : Int64))] (.long (0 : Int64)) := V29
  have N29 := Fr.snoc X29 N27 ge2
  have Z29 : n0 ≤ h29.size := Nat.le_trans Z27 (Nat.le_of_eq W29.size.symm)
  refine own_Fin.step st29 ?_
  show own_Fin p e below s _ _ _ (T29.setTop (mkF m 102 #[.val (.int p1), .val (.int u), .unset] [(.ref b1)]))
  refine own_Fin.step (fun _ => XS.dup X29.here hx rfl (hb hby at_102) rfl rfl) ?_
  show own_Fin p e below s _ _ _ (T29.setTop (mkF m 103 #[.val (.int p1), .val (.int u), .unset] [(.ref b1), (.ref b1)]))
  refine own_Fin.step (fun _ => XS.bipush X29.here hx rfl (hb hby at_103)) ?_
  show own_Fin p e below s _ _ _ (T29.setTop (mkF m 105 #[.val (.int p1), .val (.int u), .unset] [(.int (14 : Int32)), (.ref b1), (.ref b1)]))
  refine own_Fin.step (X29.ldc2Long hx hown (mvT hZ (own_w hw 15 rfl)) (g := (mkF m 105 #[.val (.int p1), .val (.int u), .unset] [(.int (14 : Int32)), (.ref b1), (.ref b1)])) rfl (hb hby at_105)) ?_
  show own_Fin p e below s _ _ _ (T29.setTop (mkF m 108 #[.val (.int p1), .val (.int u), .unset] [(.long (100000000000000 : Int64)), (.int (14 : Int32)), (.ref b1), (.ref b1)]))
  obtain ⟨T31, h31, X31, e31, V31, W31, st31⟩ := own_stJ X29 hx hZ e29 V29' (j := (14 : Int32)) ⟨by decide, by decide⟩ (14) rfl (Nat.le_of_ble_eq_true rfl) (g := (mkF m 108 #[.val (.int p1), .val (.int u), .unset] [(.long (100000000000000 : Int64)), (.int (14 : Int32)), (.ref b1), (.ref b1)])) rfl rfl (hb hby at_108)
  have V31' : Arv Z h31 b1 k1 .long (19 : Int32) [(.long (1 : Int64)), (.long (10 : Int64)), (.long (100 : Int64)), (.long (1000 : Int64)), (.long (10000 : Int64)), (.long (100000 : Int64)), (.long (1000000 : Int64)), (.long (10000000 : Int64)), (.long (100000000 : Int64)), (.long (1000000000 : Int64)), (.long (10000000000 : Int64)), (.long (100000000000 : Int64)), (.long (1000000000000 : Int64)), (.long (10000000000000 : Int64)), (.long (100000000000000 : Int64)), (.long (0 : Int64)), (.long (0 : Int64)), (.long (0 : Int64)), (.long (0 : Int64))] (.long (0 : Int64)) := V31
  have N31 := Fr.snoc X31 N29 ge2
  have Z31 : n0 ≤ h31.size := Nat.le_trans Z29 (Nat.le_of_eq W31.size.symm)
  refine own_Fin.step st31 ?_
  show own_Fin p e below s _ _ _ (T31.setTop (mkF m 109 #[.val (.int p1), .val (.int u), .unset] [(.ref b1)]))
  refine own_Fin.step (fun _ => XS.dup X31.here hx rfl (hb hby at_109) rfl rfl) ?_
  show own_Fin p e below s _ _ _ (T31.setTop (mkF m 110 #[.val (.int p1), .val (.int u), .unset] [(.ref b1), (.ref b1)]))
  refine own_Fin.step (fun _ => XS.bipush X31.here hx rfl (hb hby at_110)) ?_
  show own_Fin p e below s _ _ _ (T31.setTop (mkF m 112 #[.val (.int p1), .val (.int u), .unset] [(.int (15 : Int32)), (.ref b1), (.ref b1)]))
  refine own_Fin.step (X31.ldc2Long hx hown (mvT hZ (own_w hw 16 rfl)) (g := (mkF m 112 #[.val (.int p1), .val (.int u), .unset] [(.int (15 : Int32)), (.ref b1), (.ref b1)])) rfl (hb hby at_112)) ?_
  show own_Fin p e below s _ _ _ (T31.setTop (mkF m 115 #[.val (.int p1), .val (.int u), .unset] [(.long (1000000000000000 : Int64)), (.int (15 : Int32)), (.ref b1), (.ref b1)]))
  obtain ⟨T33, h33, X33, e33, V33, W33, st33⟩ := own_stJ X31 hx hZ e31 V31' (j := (15 : Int32)) ⟨by decide, by decide⟩ (15) rfl (Nat.le_of_ble_eq_true rfl) (g := (mkF m 115 #[.val (.int p1), .val (.int u), .unset] [(.long (1000000000000000 : Int64)), (.int (15 : Int32)), (.ref b1), (.ref b1)])) rfl rfl (hb hby at_115)
  have V33' : Arv Z h33 b1 k1 .long (19 : Int32) [(.long (1 : Int64)), (.long (10 : Int64)), (.long (100 : Int64)), (.long (1000 : Int64)), (.long (10000 : Int64)), (.long (100000 : Int64)), (.long (1000000 : Int64)), (.long (10000000 : Int64)), (.long (100000000 : Int64)), (.long (1000000000 : Int64)), (.long (10000000000 : Int64)), (.long (100000000000 : Int64)), (.long (1000000000000 : Int64)), (.long (10000000000000 : Int64)), (.long (100000000000000 : Int64)), (.long (1000000000000000 : Int64)), (.long (0 : Int64)), (.long (0 : Int64)), (.long (0 : Int64))] (.long (0 : Int64)) := V33
  have N33 := Fr.snoc X33 N31 ge2
  have Z33 : n0 ≤ h33.size := Nat.le_trans Z31 (Nat.le_of_eq W33.size.symm)
  refine own_Fin.step st33 ?_
  show own_Fin p e below s _ _ _ (T33.setTop (mkF m 116 #[.val (.int p1), .val (.int u), .unset] [(.ref b1)]))
  refine own_Fin.step (fun _ => XS.dup X33.here hx rfl (hb hby at_116) rfl rfl) ?_
  show own_Fin p e below s _ _ _ (T33.setTop (mkF m 117 #[.val (.int p1), .val (.int u), .unset] [(.ref b1), (.ref b1)]))
  refine own_Fin.step (fun _ => XS.bipush X33.here hx rfl (hb hby at_117)) ?_
  show own_Fin p e below s _ _ _ (T33.setTop (mkF m 119 #[.val (.int p1), .val (.int u), .unset] [(.int (16 : Int32)), (.ref b1), (.ref b1)]))
  refine own_Fin.step (X33.ldc2Long hx hown (mvT hZ (own_w hw 17 rfl)) (g := (mkF m 119 #[.val (.int p1), .val (.int u), .unset] [(.int (16 : Int32)), (.ref b1), (.ref b1)])) rfl (hb hby at_119)) ?_
  show own_Fin p e below s _ _ _ (T33.setTop (mkF m 122 #[.val (.int p1), .val (.int u), .unset] [(.long (10000000000000000 : Int64)), (.int (16 : Int32)), (.ref b1), (.ref b1)]))
  obtain ⟨T35, h35, X35, e35, V35, W35, st35⟩ := own_stJ X33 hx hZ e33 V33' (j := (16 : Int32)) ⟨by decide, by decide⟩ (16) rfl (Nat.le_of_ble_eq_true rfl) (g := (mkF m 122 #[.val (.int p1), .val (.int u), .unset] [(.long (10000000000000000 : Int64)), (.int (16 : Int32)), (.ref b1), (.ref b1)])) rfl rfl (hb hby at_122)
  have V35' : Arv Z h35 b1 k1 .long (19 : Int32) [(.long (1 : Int64)), (.long (10 : Int64)), (.long (100 : Int64)), (.long (1000 : Int64)), (.long (10000 : Int64)), (.long (100000 : Int64)), (.long (1000000 : Int64)), (.long (10000000 : Int64)), (.long (100000000 : Int64)), (.long (1000000000 : Int64)), (.long (10000000000 : Int64)), (.long (100000000000 : Int64)), (.long (1000000000000 : Int64)), (.long (10000000000000 : Int64)), (.long (100000000000000 : Int64)), (.long (1000000000000000 : Int64)), (.long (10000000000000000 : Int64)), (.long (0 : Int64)), (.long (0 : Int64))] (.long (0 : Int64)) := V35
  have N35 := Fr.snoc X35 N33 ge2
  have Z35 : n0 ≤ h35.size := Nat.le_trans Z33 (Nat.le_of_eq W35.size.symm)
  refine own_Fin.step st35 ?_
  show own_Fin p e below s _ _ _ (T35.setTop (mkF m 123 #[.val (.int p1), .val (.int u), .unset] [(.ref b1)]))
  refine own_Fin.step (fun _ => XS.dup X35.here hx rfl (hb hby at_123) rfl rfl) ?_
  show own_Fin p e below s _ _ _ (T35.setTop (mkF m 124 #[.val (.int p1), .val (.int u), .unset] [(.ref b1), (.ref b1)]))
  refine own_Fin.step (fun _ => XS.bipush X35.here hx rfl (hb hby at_124)) ?_
  show own_Fin p e below s _ _ _ (T35.setTop (mkF m 126 #[.val (.int p1), .val (.int u), .unset] [(.int (17 : Int32)), (.ref b1), (.ref b1)]))
  refine own_Fin.step (X35.ldc2Long hx hown (mvT hZ (own_w hw 18 rfl)) (g := (mkF m 126 #[.val (.int p1), .val (.int u), .unset] [(.int (17 : Int32)), (.ref b1), (.ref b1)])) rfl (hb hby at_126)) ?_
  show own_Fin p e below s _ _ _ (T35.setTop (mkF m 129 #[.val (.int p1), .val (.int u), .unset] [(.long (100000000000000000 : Int64)), (.int (17 : Int32)), (.ref b1), (.ref b1)]))
  obtain ⟨T37, h37, X37, e37, V37, W37, st37⟩ := own_stJ X35 hx hZ e35 V35' (j := (17 : Int32)) ⟨by decide, by decide⟩ (17) rfl (Nat.le_of_ble_eq_true rfl) (g := (mkF m 129 #[.val (.int p1), .val (.int u), .unset] [(.long (100000000000000000 : Int64)), (.int (17 : Int32)), (.ref b1), (.ref b1)])) rfl rfl (hb hby at_129)
  have V37' : Arv Z h37 b1 k1 .long (19 : Int32) [(.long (1 : Int64)), (.long (10 : Int64)), (.long (100 : Int64)), (.long (1000 : Int64)), (.long (10000 : Int64)), (.long (100000 : Int64)), (.long (1000000 : Int64)), (.long (10000000 : Int64)), (.long (100000000 : Int64)), (.long (1000000000 : Int64)), (.long (10000000000 : Int64)), (.long (100000000000 : Int64)), (.long (1000000000000 : Int64)), (.long (10000000000000 : Int64)), (.long (100000000000000 : Int64)), (.long (1000000000000000 : Int64)), (.long (10000000000000000 : Int64)), (.long (100000000000000000 : Int64)), (.long (0 : Int64))] (.long (0 : Int64)) := V37
  have N37 := Fr.snoc X37 N35 ge2
  have Z37 : n0 ≤ h37.size := Nat.le_trans Z35 (Nat.le_of_eq W37.size.symm)
  refine own_Fin.step st37 ?_
  show own_Fin p e below s _ _ _ (T37.setTop (mkF m 130 #[.val (.int p1), .val (.int u), .unset] [(.ref b1)]))
  refine own_Fin.step (fun _ => XS.dup X37.here hx rfl (hb hby at_130) rfl rfl) ?_
  show own_Fin p e below s _ _ _ (T37.setTop (mkF m 131 #[.val (.int p1), .val (.int u), .unset] [(.ref b1), (.ref b1)]))
  refine own_Fin.step (fun _ => XS.bipush X37.here hx rfl (hb hby at_131)) ?_
  show own_Fin p e below s _ _ _ (T37.setTop (mkF m 133 #[.val (.int p1), .val (.int u), .unset] [(.int (18 : Int32)), (.ref b1), (.ref b1)]))
  refine own_Fin.step (X37.ldc2Long hx hown (mvT hZ (own_w hw 19 rfl)) (g := (mkF m 133 #[.val (.int p1), .val (.int u), .unset] [(.int (18 : Int32)), (.ref b1), (.ref b1)])) rfl (hb hby at_133)) ?_
  show own_Fin p e below s _ _ _ (T37.setTop (mkF m 136 #[.val (.int p1), .val (.int u), .unset] [(.long (1000000000000000000 : Int64)), (.int (18 : Int32)), (.ref b1), (.ref b1)]))
  obtain ⟨T39, h39, X39, e39, V39, W39, st39⟩ := own_stJ X37 hx hZ e37 V37' (j := (18 : Int32)) ⟨by decide, by decide⟩ (18) rfl (Nat.le_of_ble_eq_true rfl) (g := (mkF m 136 #[.val (.int p1), .val (.int u), .unset] [(.long (1000000000000000000 : Int64)), (.int (18 : Int32)), (.ref b1), (.ref b1)])) rfl rfl (hb hby at_136)
  have V39' : Arv Z h39 b1 k1 .long (19 : Int32) [(.long (1 : Int64)), (.long (10 : Int64)), (.long (100 : Int64)), (.long (1000 : Int64)), (.long (10000 : Int64)), (.long (100000 : Int64)), (.long (1000000 : Int64)), (.long (10000000 : Int64)), (.long (100000000 : Int64)), (.long (1000000000 : Int64)), (.long (10000000000 : Int64)), (.long (100000000000 : Int64)), (.long (1000000000000 : Int64)), (.long (10000000000000 : Int64)), (.long (100000000000000 : Int64)), (.long (1000000000000000 : Int64)), (.long (10000000000000000 : Int64)), (.long (100000000000000000 : Int64)), (.long (1000000000000000000 : Int64))] (.long (0 : Int64)) := V39
  have N39 := Fr.snoc X39 N37 ge2
  have Z39 : n0 ≤ h39.size := Nat.le_trans Z37 (Nat.le_of_eq W39.size.symm)
  refine own_Fin.step st39 ?_
  show own_Fin p e below s _ _ _ (T39.setTop (mkF m 137 #[.val (.int p1), .val (.int u), .unset] [(.ref b1)]))
  refine own_Fin.step (fun _ => XS.astoreN X39.here hx rfl (hb hby at_137) rfl rfl (l' := #[.val (.int p1), .val (.int u), .val (.ref b1)]) rfl) ?_
  show own_Fin p e below s _ _ _ (T39.setTop (mkF m 138 #[.val (.int p1), .val (.int u), .val (.ref b1)] []))
  refine own_Fin.step (fun _ => XS.iloadN X39.here hx rfl (hb hby at_138) rfl) ?_
  show own_Fin p e below s _ _ _ (T39.setTop (mkF m 139 #[.val (.int p1), .val (.int u), .val (.ref b1)] [(.int u)]))
  obtain ⟨_, T41, L41, X41, ⟨rfl, N41q, e41⟩, st41⟩ := own_callS X39 hx hZ hown (own_w hw 20 rfl) (own_w hw 21 rfl) (own_w hw 22 rfl) (own_w hw 23 rfl) (by decide) (rm1 l Z a0 hw u h39 n0 Z39) (by decide) (by decide) e39 (W := 0) (g := (mkF m 139 #[.val (.int p1), .val (.int u), .val (.ref b1)] [(.int u)])) rfl (by rw [hml]; rfl) (argsL := [(.int u)]) (rest := []) (lenOf pd_0 rfl) rfl rfl (by show 2 * 0 + _ ≤ _; exact Nat.le_of_eq rfl) (hb hby at_139) (by decide) (by decide)
  have N41 := Fr.app N39 N41q
  refine own_Fin.step st41 ?_
  show own_Fin p e below s _ _ _ (T41.setTop (mkF m 142 #[.val (.int p1), .val (.int u), .val (.ref b1)] [(.long (own_p10 u.toNatClampNeg))]))
  refine own_Fin.step (fun _ => XS.aloadN X41.here hx rfl (hb hby at_142) rfl rfl) ?_
  show own_Fin p e below s _ _ _ (T41.setTop (mkF m 143 #[.val (.int p1), .val (.int u), .val (.ref b1)] [(.ref b1), (.long (own_p10 u.toNatClampNeg))]))
  refine own_Fin.step (fun _ => XS.iloadN X41.here hx rfl (hb hby at_143) rfl) ?_
  show own_Fin p e below s _ _ _ (T41.setTop (mkF m 144 #[.val (.int p1), .val (.int u), .val (.ref b1)] [(.int u), (.ref b1), (.long (own_p10 u.toNatClampNeg))]))
  refine own_Fin.step (own_ldJ X41 hx hZ e41 V39' (j := u) (v := (.long (own_p10 u.toNatClampNeg))) ⟨hu ▸ (own_e p1).1, hu ▸ (own_e p1).2.1⟩ (own_at ⟨u.toNatClampNeg, hu ▸ (own_e p1).2.2⟩) (g := (mkF m 144 #[.val (.int p1), .val (.int u), .val (.ref b1)] [(.int u), (.ref b1), (.long (own_p10 u.toNatClampNeg))])) rfl rfl (hb hby at_144)) ?_
  show own_Fin p e below s _ _ _ (T41.setTop (mkF m 145 #[.val (.int p1), .val (.int u), .val (.ref b1)] [(.long (own_p10 u.toNatClampNeg)), (.long (own_p10 u.toNatClampNeg))]))
  refine own_Fin.step (fun _ => XS.lcmp X41.here hx rfl (hb hby at_145) rfl) ?_
  show own_Fin p e below s _ _ _ (T41.setTop (mkF m 146 #[.val (.int p1), .val (.int u), .val (.ref b1)] [(.int (XT.cmpL (own_p10 u.toNatClampNeg) (own_p10 u.toNatClampNeg)))]))
  refine own_Fin.step (fun _ => XS.ifNo X41.here hx rfl (hb hby at_146) rfl (XT.ll_ne_f (rfl : (own_p10 u.toNatClampNeg) = (own_p10 u.toNatClampNeg)))) ?_
  show own_Fin p e below s _ _ _ (T41.setTop (mkF m 149 #[.val (.int p1), .val (.int u), .val (.ref b1)] []))
  refine own_Fin.step (fun _ => XS.iconst X41.here hx rfl (hb hby at_149)) ?_
  show own_Fin p e below s _ _ _ (T41.setTop (mkF m 150 #[.val (.int p1), .val (.int u), .val (.ref b1)] [(.int (1 : Int32))]))
  refine own_Fin.step (fun _ => XS.goto X41.here hx rfl (pc0 := 150) (pc' := 154) rfl (hb hby at_150) (by decide) (by decide)) ?_
  show own_Fin p e below s _ _ _ (T41.setTop (mkF m 154 #[.val (.int p1), .val (.int u), .val (.ref b1)] [(.int (1 : Int32))]))
  exact own_retN X41 hx hlk (t := .boolean) hret (by simp) (hb hby at_154) ⟨rfl, N41⟩ (by decide) (by decide)
set_option maxRecDepth 65536 in
set_option maxHeartbeats 40000000 in
theorem comes_1 {Post : Tables → Env → Array Value → State → Outcome → State → Prop} (hpost : ∀ tb e args s v u, (limb_1_1.after args s (.returned v) u = true ∧ limb_1_2.after args s (.returned v) u = true ∧ True) → FrameEnd s (.returned v) u (Jvm.fieldLocs frame_1_writes args s ++ Jvm.arrayLocs frame_1_arrays args s ++ Jvm.staticLocs frame_1_statics s) 16 128 → Post tb e args s (.returned v) u) :
    ArmFor flags0 classFile x code maxLocals ret World_1 tables_1 room_1 Calls_1 rest_1 Pre_1 Post := by
  intro l hfl _ _ p e ha hc hk s m args below hf hA hF happ hP
  obtain ⟨hcalls, hrest, hpre⟩ := hP
  obtain ⟨-, -, -, hnamed, -, -, -, hat⟩ := (Spec.applies_iff hf).mp happ
  obtain ⟨hg, hn⟩ := and_e (Cond.before_iff.mp (show (Jvm.Cond.and given_1 narrow_1).before args s = true from hpre))
  obtain ⟨hcount, g0⟩ := and_e hg
  have a0 := g0
  obtain ⟨w0, rfl⟩ : ∃ w0 : Value, args = #[w0] := by
    have hs : args.size = 1 := by simpa [Cond.value, given_1] using hcount
    obtain ⟨L⟩ := args
    match L, hs with
    | [w0], _ => exact ⟨w0, rfl⟩
  have hw := fun d (hd : d ∈ tables_1) => atoms_spec (ws := Jvm.Cond.code x code maxLocals ret :: tables_1) hat d (List.mem_cons_of_mem _ hd)
  obtain ⟨i0, ei0⟩ := is_v a0
  obtain rfl : w0 = (.int i0) := Option.some.inj ei0
  obtain ⟨n, o, h1, h2, h3, _, L, rfl, ⟨rfl, N⟩, hq⟩ := rm0 l s _ hw i0 s.heap s.heap.size (Nat.le_refl _)  p e ha hc hk s m _ below hf ((Spec.applies_iff_loose hf).mp happ).1 ⟨rfl, State.Warmed39.refl s, rfl⟩ trivial
  refine ⟨n, _, h1, h2, h3, hpost _ _ _ _ _ _ ⟨Cond.after_iff.mpr rfl, Cond.after_iff.mpr (eq_i res_at (Term.int_eval (1)) rfl), trivial⟩ ⟨hq.1, hq.2.1, (hq.2.2.sift fun y hy => Or.inr (N y hy)).mono (by decide) (by decide)⟩⟩
theorem main_1_1 : Claimed_1_1 := comes_1 fun _ _ _ _ _ _ h hF => ⟨h.1, hF⟩
theorem main_1_2 : Claimed_1_2 := comes_1 fun _ _ _ _ _ _ h hF => ⟨h.2.1, hF⟩
end Jvm.Pilot.@@N@@
namespace Jvm.Pilot.@@N@@
open Jvm Jvm.ClassFile Sem Op Lib Jvm.Free Jvm.Stand Jvm.Pilot.@@N@@.Jvm.D
/-! MADE BY PROGRAM (witnessworld.py) out of the Statement's table words and the real class files: 11 classes; the members and pool entries that the words name. The judged class is class 1, her method 1. -/
namespace start1
open Jvm.ClassFile
def u (s : String) : CpInfo := .utf8 (stringToUtf16 s)
/-- a pool by its gaps: so many unusable entries, then the entry; so many at the end -/
def gap : Nat → List CpInfo → List CpInfo
  | 0, r => r
  | n + 1, r => .unusable :: gap n r
def poolList (es : List (Nat × CpInfo)) (last : Nat) : List CpInfo := es.foldr (fun e r => gap e.1 (e.2 :: r)) (gap last [])
def pool (es : List (Nat × CpInfo)) (last : Nat) : Array CpInfo := ⟨poolList es last⟩
def fileOf (pool : Array CpInfo) (this : Nat) (attrs : Array Attribute := #[]) (ms : Array MethodInfo := #[]) (fl : Nat := 33) (sup : Nat := 0) (ifs : Array Nat := #[]) (fds : Array FieldInfo := #[]) : ClassFile where
  minorVersion := 0
  majorVersion := 65
  constantPool := pool
  accessFlags := fl
  thisClass := this
  superClass := sup
  interfaces := ifs
  fields := fds
  methods := ms
  attributes := attrs
def plain (name : String) (sup : Option ClassId) : Class where
  name := name
  kind := .ordinary
  loader := none
  accessFlags := 33
  super := sup
  interfaces := #[]
  cf := none
  fields := #[]
  methods := #[]
  instanceTypes := #[]
  staticTypes := #[]
  resolved := #[]
  callSites := []
  init := .initialized
  statics := none
  mirror := none

def pool0 : Array CpInfo := pool [(5, u "<init>"), (0, u "()V"), (1, .class_ 10), (1, u "java/lang/Object")] 113

def k0m0 : Method := { name := "<init>", desc := "()V", sig := { parameters := [], returnType := none }, accessFlags := 1, code := none }
/-- java/lang/Object -/
def k0 : Class := { plain "java/lang/Object" none with
  accessFlags := 33
  interfaces := #[]
  cf := some (fileOf pool0 8 #[] #[{ accessFlags := 1, nameIndex := 5, descriptorIndex := 6, attributes := #[] }] 33 0 #[] #[])
  fields := #[]
  methods := #[k0m0]
  instanceTypes := #[]
  staticTypes := #[]
  resolved := Array.replicate 124 none
  statics := none }

def pool1 : Array CpInfo := pool [(2, .class_ 4), (1, u "java/lang/Object"), (0, u "<init>"), (0, u "()V"), (0, .integer 2147483647), (0, .long 10), (1, .long 100), (1, .long 1000), (1, .long 10000), (1, .long 100000), (1, .long 1000000), (1, .long 10000000), (1, .long 100000000), (1, .long 1000000000), (1, .long 10000000000), (1, .long 100000000000), (1, .long 1000000000000), (1, .long 10000000000000), (1, .long 100000000000000), (1, .long 1000000000000000), (1, .long 10000000000000000), (1, .long 100000000000000000), (1, .long 1000000000000000000), (1, .methodref 45 46), (0, .class_ 47), (0, .nameAndType 48 49), (0, u "com/example/raw_to_screen/rawtoscreen/mapping/Rational"), (0, u "powerOfTen"), (0, u "(I)J"), (0, .class_ 51), (0, u "com/example/raw_to_screen/rawtoscreen/mapping/RationalPowerOfTenPinLaw"), (2, u "law"), (0, u "(I)Z")] 5

def k1m0 : Method := { name := "<init>", desc := "()V", sig := { parameters := [], returnType := none }, accessFlags := 1, code := none }
def k1c1 : Code := { maxStack := 5, maxLocals := 3, code := code, exceptionTable := #[], attributes := #[] }
def k1m1 : Method := { name := "law", desc := "(I)Z", sig := { parameters := [.int], returnType := some .boolean }, accessFlags := 9, code := some k1c1 }
/-- com/example/raw_to_screen/rawtoscreen/mapping/RationalPowerOfTenPinLaw -/
def k1 : Class := { plain "com/example/raw_to_screen/rawtoscreen/mapping/RationalPowerOfTenPinLaw" (some 0) with
  accessFlags := 49
  interfaces := #[]
  cf := some (fileOf pool1 50 #[] #[{ accessFlags := 1, nameIndex := 5, descriptorIndex := 6, attributes := #[] }, { accessFlags := 9, nameIndex := 54, descriptorIndex := 55, attributes := #[] }] 49 2 #[] #[])
  fields := #[]
  methods := #[k1m0, k1m1]
  instanceTypes := #[]
  staticTypes := #[]
  resolved := Array.replicate 61 none
  statics := none }

def pool2 : Array CpInfo := pool [(4, .class_ 6), (1, u "java/lang/Object"), (10, .class_ 19), (1, u "com/example/raw_to_screen/rawtoscreen/mapping/Rational"), (0, u "numerator"), (0, u "J"), (2, u "bigNumerator"), (0, u "Ljava/math/BigInteger;"), (2, u "denominator"), (88, u "powerOfTen"), (0, u "(I)J"), (8, .long 10), (1, u "MOST_DECIMALS"), (0, u "I"), (2, u "NOT_IN_A_LONG")] 11

def k2c0 : Code := { maxStack := 4, maxLocals := 4, code := prog_89_method_12_code, exceptionTable := #[], attributes := #[] }
def k2m0 : Method := { name := "powerOfTen", desc := "(I)J", sig := { parameters := [.int], returnType := some .long }, accessFlags := 8, code := some k2c0 }
/-- com/example/raw_to_screen/rawtoscreen/mapping/Rational -/
def k2 : Class := { plain "com/example/raw_to_screen/rawtoscreen/mapping/Rational" (some 0) with
  accessFlags := 49
  interfaces := #[]
  cf := some (fileOf pool2 17 #[] #[{ accessFlags := 8, nameIndex := 117, descriptorIndex := 118, attributes := #[] }] 49 4 #[] #[{ accessFlags := 26, nameIndex := 129, descriptorIndex := 130, attributes := #[] }, { accessFlags := 24, nameIndex := 133, descriptorIndex := 21, attributes := #[] }, { accessFlags := 18, nameIndex := 20, descriptorIndex := 21, attributes := #[] }, { accessFlags := 18, nameIndex := 24, descriptorIndex := 25, attributes := #[] }, { accessFlags := 18, nameIndex := 28, descriptorIndex := 21, attributes := #[] }])
  fields := #[{ name := "MOST_DECIMALS", type := .int, accessFlags := 26, slot := 0, constantValue := 0 }, { name := "NOT_IN_A_LONG", type := .long, accessFlags := 24, slot := 1, constantValue := 0 }, { name := "numerator", type := .long, accessFlags := 18, slot := 0, constantValue := 0 }, { name := "bigNumerator", type := (.object "java/math/BigInteger"), accessFlags := 18, slot := 1, constantValue := 0 }, { name := "denominator", type := .long, accessFlags := 18, slot := 2, constantValue := 0 }]
  methods := #[k2m0]
  instanceTypes := #[.long, (.object "java/math/BigInteger"), .long]
  staticTypes := #[.int, .long]
  resolved := Array.replicate 145 none
  statics := none }

def pool3 : Array CpInfo := pool [(1, u "java/lang/Cloneable"), (0, .class_ 1), (0, u "java/lang/Object"), (0, .class_ 3)] 3

/-- java/lang/Cloneable -/
def k3 : Class := { plain "java/lang/Cloneable" (some 0) with
  accessFlags := 1537
  interfaces := #[]
  cf := some (fileOf pool3 2 #[] #[] 1537 4 #[] #[])
  fields := #[]
  methods := #[]
  instanceTypes := #[]
  staticTypes := #[]
  resolved := Array.replicate 8 none
  statics := none }

def pool4 : Array CpInfo := pool [(1, u "java/io/Serializable"), (0, .class_ 1), (0, u "java/lang/Object"), (0, .class_ 3)] 3

/-- java/io/Serializable -/
def k4 : Class := { plain "java/io/Serializable" (some 0) with
  accessFlags := 1537
  interfaces := #[]
  cf := some (fileOf pool4 2 #[] #[] 1537 4 #[] #[])
  fields := #[]
  methods := #[]
  instanceTypes := #[]
  staticTypes := #[]
  resolved := Array.replicate 8 none
  statics := none }

/-- the primitive byte -/
def k5 : Class := { plain "byte" none with kind := .primitive 'B', accessFlags := 0x411 }
/-- [B -/
def k6 : Class := { plain "[B" (some 0) with kind := .array 5 .byte, interfaces := #[3, 4], accessFlags := 1041 }

/-- the primitive int -/
def k7 : Class := { plain "int" none with kind := .primitive 'I', accessFlags := 0x411 }
/-- [I -/
def k8 : Class := { plain "[I" (some 0) with kind := .array 7 .int, interfaces := #[3, 4], accessFlags := 1041 }

/-- the primitive long -/
def k9 : Class := { plain "long" none with kind := .primitive 'J', accessFlags := 0x411 }
/-- [J -/
def k10 : Class := { plain "[J" (some 0) with kind := .array 9 .long, interfaces := #[3, 4], accessFlags := 1041 }

def heap : Heap := #[]
def classes : Array Class := #[k0, k1, k2, k3, k4, k5, k6, k7, k8, k9, k10]
def interned : List (Array UInt16 × Addr) := []
def slotsUsed : Nat := 0
def theMethod : MethodId := ⟨1, 1⟩
def args0 : Array Value := #[.int 5]
def aboutOver (below : List Frame) : State where
  vm := { classes := classes, interned := interned.toArray }
  heap := heap
  slotsUsed := slotsUsed
  threads := #[{ frames := .invoking theMethod args0 :: below }]
def below0 : List Frame := [.native { method := ⟨0, 0⟩, args := #[] }]
def about1 : State := aboutOver below0
def p0 : Program := .bare "" "" ""
def e0 : Env := launch0.env 0 0 0
theorem w_frames : about1.frames = Frame.invoking theMethod args0 :: below0 := rfl
set_option maxRecDepth 65536 in
theorem w_args : argsFit about1.vm theMethod args0 = true := by decide +kernel
set_option maxRecDepth 65536 in
theorem w_heap : heapFits about1 = true := by decide +kernel
set_option maxRecDepth 65536 in
theorem w_runnable : about1.curStatus? = some .runnable := by decide +kernel
set_option maxRecDepth 65536 in
theorem w_alone : about1.alone = true := by decide +kernel
set_option maxRecDepth 65536 in
theorem w_named : about1.methodNamed? x = some theMethod := by decide +kernel
set_option maxRecDepth 65536 in
theorem w_hears : about1.hears theMethod below0 = true := by decide +kernel
set_option maxRecDepth 65536 in
theorem w_ripe : about1.ripe theMethod args0 below0 = true := by decide +kernel
theorem w_running : about1.status = .running := rfl
set_option maxRecDepth 65536 in
theorem w_room : about1.hasRoom e0.platform room_1 = true :=
  launch0.hasRoom_least _ room_1 (by decide +kernel) (by decide +kernel) (by decide +kernel) (by decide +kernel) (by decide +kernel) (by decide +kernel)
theorem allAtoms_all (ts : List Jvm.Cond) (a : Array Jvm.Value) (st : Jvm.State) : (allAtoms ts).before a st = ts.all (fun c => c.before a st) := by
  induction ts with
  | nil => rfl
  | cons c t ih =>
    show (Jvm.Cond.and c (allAtoms t)).before a st = _
    rw [Jvm.Cond.before_and, ih, List.all_cons]
def words1 : List Jvm.Cond := Jvm.Cond.code x code maxLocals ret :: tables_1
/-- a 'code' word, met by the world's own term for the bytes: nothing is compared byte by byte -/
theorem code_word {y : MethodName} {bytes : ByteArray} {mx : Nat} {rt : Option FieldType} {a : Array Value} {s : State} {m : MethodId} {meth : Method} {c : Code} (h1 : s.methodNamed? y = some m) (h2 : s.vm.method? m = some meth) (h3 : meth.code = some c) (h4 : c.code = bytes)
    (h5 : (c.maxLocals == mx && c.exceptionTable.isEmpty && decide (c.maxStack ≤ mostOperands) && decide (meth.sig.returnType = rt) && !meth.locks && decide (parseMethodDescriptor y.desc = some meth.sig)) = true) : (Jvm.Cond.code y bytes mx rt).before a s = true := by
  simp only [Bool.and_eq_true, beq_iff_eq, Bool.not_eq_true', decide_eq_true_eq] at h5
  obtain ⟨⟨⟨⟨⟨g1, g2⟩, g3⟩, g4⟩, g5⟩, g6⟩ := h5
  simp [Cond.before, Cond.holds, Cond.value, h1, h2, h3, h4, g1, g2, g3, g4, g5, g6]
def isCode : Jvm.Cond → Bool
  | .code _ _ _ _ => true
  | _ => false
theorem all_split {L : List Jvm.Cond} {P : Jvm.Cond → Bool} (h1 : L.all (fun c => isCode c || P c) = true) (h2 : ∀ c ∈ L.filter isCode, P c = true) : L.all P = true := by
  refine List.all_eq_true.mpr fun c hc => ?_
  have h := List.all_eq_true.mp h1 c hc
  rcases Bool.eq_false_or_eq_true (isCode c) with hi | hi
  · exact h2 c (List.mem_filter.mpr ⟨hc, hi⟩)
  · simpa [hi] using h
set_option maxRecDepth 65536 in
theorem w_c0 : (Jvm.Cond.code x code maxLocals ret).before args0 about1 = true := code_word (m := ⟨1, 1⟩) (meth := k1m1) (c := k1c1) (by decide +kernel) rfl rfl rfl (by decide +kernel)
set_option maxRecDepth 65536 in
theorem w_c1 : (Jvm.Cond.code ({ cls := "com/example/raw_to_screen/rawtoscreen/mapping/Rational", name := "powerOfTen", desc := "(I)J" } : Jvm.MethodName) prog_89_method_12_code (4 : Nat) (Option.some Jvm.ClassFile.FieldType.long)).before args0 about1 = true := code_word (m := ⟨2, 0⟩) (meth := k2m0) (c := k2c0) (by decide +kernel) rfl rfl rfl (by decide +kernel)
def codes1 : List Jvm.Cond := [Jvm.Cond.code x code maxLocals ret, Jvm.Cond.code ({ cls := "com/example/raw_to_screen/rawtoscreen/mapping/Rational", name := "powerOfTen", desc := "(I)J" } : Jvm.MethodName) prog_89_method_12_code (4 : Nat) (Option.some Jvm.ClassFile.FieldType.long)]
set_option maxRecDepth 65536 in
theorem codes_eq : words1.filter isCode = codes1 := rfl
theorem w_codes : ∀ c ∈ words1.filter isCode, c.before args0 about1 = true := by
  rw [codes_eq]
  intro c hc
  simp only [codes1, List.mem_cons, List.not_mem_nil, or_false] at hc
  rcases hc with rfl | rfl
  · exact w_c0
  · exact w_c1
set_option maxRecDepth 65536 in
theorem w_t1 : (words1.take 24).all (fun c => isCode c || c.before args0 about1) = true := by decide +kernel
set_option maxRecDepth 65536 in
theorem w_t2 : (words1.drop 24).all (fun c => isCode c || c.before args0 about1) = true := by decide +kernel
theorem w_tables : (allAtoms (Jvm.Cond.code x code maxLocals ret :: tables_1)).before args0 about1 = true := by
  rw [allAtoms_all]
  show words1.all (fun c => c.before args0 about1) = true
  refine all_split ?_ w_codes
  rw [← List.take_append_drop 24 words1, List.all_append, w_t1, w_t2]
  rfl
set_option maxRecDepth 65536 in
theorem w_case : (Jvm.Cond.and given_1 narrow_1).before args0 about1 = true := by decide +kernel
theorem w_applies : (headSpec (Jvm.Cond.code x code maxLocals ret :: tables_1) room_1).applies x e0.platform about1 = true :=
  (Spec.applies_iff w_frames).mpr ⟨w_running, w_runnable, w_alone, w_named, w_hears, w_ripe, w_room, w_tables⟩
theorem atStart : AtStart classFile x code maxLocals ret World_1 tables_1 room_1 Calls_1 rest_1 Pre_1 launch0 p0 e0 about1 theMethod args0 below0 :=
  ⟨lists_1, trivial, launch0.admits_env _ _ _, launch0.least_env, fairChoices_fair.cas, fairChoices_fair.clock, w_frames, w_args, w_heap, w_applies, trivial, trivial, w_case⟩
end start1
theorem witness_1 : WitnessClaimed_1 := ⟨start1.p0, start1.e0, start1.about1, start1.theMethod, start1.args0, start1.below0, start1.atStart⟩
end Jvm.Pilot.@@N@@
