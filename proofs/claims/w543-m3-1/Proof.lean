import JvmDerived
import JvmDerived.Pilot.@@N@@Statement
import JvmDerived.Pilot.@@N@@Code
set_option linter.unusedVariables false
set_option linter.unusedSimpArgs false
namespace Jvm.Pilot.@@N@@
open Jvm Jvm.ClassFile Sem Op Lib Jvm.Free Jvm.Stand Jvm.LawKit Jvm.RoadKit Bundle Jvm.Pilot.@@N@@.Jvm.D
theorem own_w {Z : State} {a0 : Array Value} (hw : ∀ d ∈ tables_1, d.before a0 Z = true) (k : Nat) {d : Jvm.Cond} (h : tables_1[k]? = some d) : d.before a0 Z = true := hw _ (List.mem_of_getElem? h)
/-- the run from U ends, and Q says what it leaves -/
def own_Fin (p : Program) (e : Env) (below : List Frame) (s : State) (Q : Option Value → Heap → List Loc → Prop) (k n : Nat) (U : State) : Prop :=
  ∃ s₂ o, Steps p.tables e below U s₂ ∧ s₂.status = .running ∧ Ended s₂ below o ∧ ∃ v L, o = .returned v ∧ Q v s₂.heap L ∧ FrameEnd s o s₂ L k n
theorem own_Fin.step {p : Program} {e : Env} {below : List Frame} {s : State} {Q : Option Value → Heap → List Loc → Prop} {k n : Nat} {U U' : State} (st : ∀ t, Steps p.tables e below U' t → Steps p.tables e below U t) (h : own_Fin p e below s Q k n U') : own_Fin p e below s Q k n U := by
  obtain ⟨s₂, o, h1, h2⟩ := h
  exact ⟨s₂, o, st _ h1, h2⟩
/-- a contract: called with as' at the heap h, the body leaves what Q says -/
abbrev own_Met (l : Launch) (Z : State) (ws : List Jvm.Cond) (y : MethodName) (bytes : ByteArray) (maxL : Nat) (ret : Option FieldType) (rm : Room) (as' : Array Value) (h : Heap) (Q : Option Value → Heap → List Loc → Prop) : Prop :=
  MetFree l y (head1 (Jvm.Cond.code y bytes maxL ret :: ws) rm) (fun a U => a = as' ∧ Z.Warmed39 U.vm ∧ U.heap = h) (fun _ _ _ _ _ => True) (fun _ U o U' => ∃ v L, o = .returned v ∧ Q v U'.heap L ∧ FrameEnd U o U' L rm.cells rm.slots)
/-- what a body leaves that returns w and writes nothing -/
def own_QP (w : Option Value) (h0 : Heap) (n0 : Nat) (v : Option Value) (h : Heap) (L : List Loc) : Prop := v = w ∧ Fr n0 L ∧ h = h0
/-- the law's own end -/
def own_Q0 (n0 : Nat) (v : Option Value) (h : Heap) (L : List Loc) : Prop := v = some (.int 1) ∧ Fr n0 L
theorem own_enter {l : Launch} {Z : State} {ws : List Jvm.Cond} {y : MethodName} {bytes : ByteArray} {maxL : Nat} {ret : Option FieldType} {rm : Room} {as' : Array Value} {h : Heap} {Q : Option Value → Heap → List Loc → Prop} (hp : plainFor y = true)
    (body : ∀ (p : Program) (e : Env) (s : State) (m : MethodId) (below : List Frame) (meth : Method) (c : Code) (s₁ : State), Stand p l e rm s m as' below meth c s₁ [] 0 0 → p.tables.exec = Jvm.exec → c.code = bytes → c.maxLocals = maxL → s.vm.findClass y.cls = some m.cls → meth.sig.returnType = ret → meth.locks = false → meth.name = y.name → Z.Warmed39 s.vm → s₁.heap = h →
      own_Fin p e below s Q rm.cells rm.slots (s₁.setTop (entryFrame m as' maxL))) : own_Met l Z ws y bytes maxL ret rm as' h Q := by
  refine MetFree.of_bodySF hp hisR ?_
  intro p e s m args below meth c s₁ Bd hml0 hP hK
  obtain ⟨rfl, hZ, hh⟩ := hP
  exact body p e s m below meth c s₁ (Stand.of_body Bd) Bd.exec Bd.bytes hml0 (findClass_of_methodNamed Bd.named) Bd.returns (BodyLoose.notSynchronized Bd) (name_of_methodNamed Bd.named Bd.method).1 hZ (by rw [← hh, Bd.state]; rfl)
section Own
variable {p : Program} {l : Launch} {e : Env} {R : Room} {s : State} {m : MethodId} {args : Array Value} {below : List Frame} {meth : Method} {c : Code} {T : State} {locs : List Loc} {cells slots : Nat} {Z : State} {a0 : Array Value} {h : Heap} {Q : Option Value → Heap → List Loc → Prop} {k n : Nat}
theorem own_retI (X : Stand p l e R s m args below meth c T locs cells slots) (hx : p.tables.exec = Jvm.exec) (hlk : meth.locks = false) {pc : Nat} {Ls : Array Slot} {z : Int32} {rest : List Value} (hret : meth.sig.returnType = some .int) (hd : decode c.code pc = .ok (.ireturn, 1)) (hQ : Q (some (.int z)) T.heap locs) (hk : cells ≤ k) (hn : slots ≤ n) :
    own_Fin p e below s Q k n (T.setTop (mkF m pc Ls (.int z :: rest))) := by
  obtain ⟨fs, hr, hrun, hended, hW, hsame⟩ := X.leave (v := some (.int z)) (fun h => by rw [hret] at h; cases h) hlk
  refine ⟨_, _, ?_, hrun, hended, _, _, rfl, hQ, ⟨_, rfl⟩, hW, hsame.mono hk hn⟩
  have hm' : T.vm.method? m = some meth := X.method'
  have hnn : narrow .int (.int z) = .int z := rfl
  show Steps p.tables e below (T.setTop { method := m, pc := pc, locals := Ls, stack := _ :: rest, locked := none }) _
  jvm_step X.here [X.here.top, hx, hd, hm', hret, hnn]
  first | (intro acts; rw [hr _ acts rfl rfl rfl]) | rw [hr _ _ rfl rfl rfl]
  exact Steps.refl _
theorem own_retN (X : Stand p l e R s m args below meth c T locs cells slots) (hx : p.tables.exec = Jvm.exec) (hlk : meth.locks = false) {pc : Nat} {Ls : Array Slot} {z : Int32} {t : FieldType} {rest : List Value} (hret : meth.sig.returnType = some t) (ht : t = .boolean ∨ t = .byte ∨ t = .char ∨ t = .short) (hd : decode c.code pc = .ok (.ireturn, 1)) (hQ : Q (some (.int (nar t z))) T.heap locs) (hk : cells ≤ k) (hn : slots ≤ n) :
    own_Fin p e below s Q k n (T.setTop (mkF m pc Ls (.int z :: rest))) := by
  obtain ⟨fs, hr, hrun, hended, hW, hsame⟩ := X.leave (v := some (.int (nar t z))) (fun h => by rw [hret] at h; cases h) hlk
  exact ⟨_, _, retN X hx hret ht hd hr, hrun, hended, _, _, rfl, hQ, ⟨_, rfl⟩, hW, hsame.mono hk hn⟩
theorem own_retJ (X : Stand p l e R s m args below meth c T locs cells slots) (hx : p.tables.exec = Jvm.exec) (hlk : meth.locks = false) {pc : Nat} {Ls : Array Slot} {z : Int64} (hret : meth.sig.returnType = some .long) (hd : decode c.code pc = .ok (.lreturn, 1)) (hQ : Q (some (.long z)) T.heap locs) (hk : cells ≤ k) (hn : slots ≤ n) :
    own_Fin p e below s Q k n (T.setTop (mkF m pc Ls [.long z])) := by
  obtain ⟨fs, hr, hrun, hended, hW, hsame⟩ := X.leave (v := some (.long z)) (fun h => by rw [hret] at h; cases h) hlk
  exact ⟨_, _, X.lreturnOut hx hret hd hr, hrun, hended, _, _, rfl, hQ, ⟨_, rfl⟩, hW, hsame.mono hk hn⟩
theorem own_retR (X : Stand p l e R s m args below meth c T locs cells slots) (hx : p.tables.exec = Jvm.exec) (hlk : meth.locks = false) {pc : Nat} {Ls : Array Slot} {w : Value} {t : FieldType} (hw : w.isRef = true) (hret : meth.sig.returnType = some t) (ht : t.isReference = true) (hd : decode c.code pc = .ok (.areturn, 1)) (hQ : Q (some w) T.heap locs) (hk : cells ≤ k) (hn : slots ≤ n) :
    own_Fin p e below s Q k n (T.setTop (mkF m pc Ls [w])) := by
  obtain ⟨fs, hr, hrun, hended, hW, hsame⟩ := X.leave (v := some w) (fun h => by rw [hret] at h; cases h) hlk
  exact ⟨_, _, X.areturnOut hx hw hret ht hd hr, hrun, hended, _, _, rfl, hQ, ⟨_, rfl⟩, hW, hsame.mono hk hn⟩
theorem own_ret0 (X : Stand p l e R s m args below meth c T locs cells slots) (hx : p.tables.exec = Jvm.exec) (hlk : meth.locks = false) {pc : Nat} {Ls : Array Slot} (hret : meth.sig.returnType = none) (hd : decode c.code pc = .ok (.return_, 1)) (hQ : Q none T.heap locs) (hk : cells ≤ k) (hn : slots ≤ n) :
    own_Fin p e below s Q k n (T.setTop (mkF m pc Ls [])) := by
  obtain ⟨fs, hr, hrun, hended, hW, hsame⟩ := X.leave (v := none) (fun _ => rfl) hlk
  exact ⟨_, _, X.returnOut hx hret hd hr, hrun, hended, _, _, rfl, hQ, ⟨_, rfl⟩, hW, hsame.mono hk hn⟩
theorem own_lrem {tb : Tables} [Ours tb] {target : State} {g : JFrame} (h : At T m c below) (hx : tb.exec = Jvm.exec) (hg : g.method = m) {x y : Int64} {rest : List Value} (hd : decode c.code g.pc = .ok (.lrem, 1)) (hs : g.stack = .long y :: .long x :: rest) (hy : y ≠ 0)
    (hr : Steps tb e below (T.setTop { g with pc := g.pc + 1, stack := .long (x % y) :: rest }) target) : Steps tb e below (T.setTop g) target := by
  have q : x - x / y * y = x % y := lrem_mod x y
  exact XS.lrem h hx hg hd hs hy (by rw [q]; exact hr)
theorem own_callS (X : Stand p l e R s m args below meth c T locs cells slots) (hx : p.tables.exec = Jvm.exec) (hZ : Z.Warmed39 s.vm) {own : String} {index : Nat} {y : MethodName} {bytes : ByteArray} {maxL : Nat} {ret : Option FieldType} {rm : Room} {as' : Array Value}
    (hown : s.vm.findClass own = some m.cls) (w1 : (Jvm.Cond.methodLink own index y).before a0 Z = true) (w2 : (Jvm.Cond.static y).before a0 Z = true) (w3 : (Jvm.Cond.initialized y.cls).before a0 Z = true) (w4 : (Jvm.Cond.code y bytes maxL ret).before a0 Z = true)
    (hy : y.cls ≠ "java/lang/invoke/MethodHandle" ∧ y.cls ≠ "java/lang/invoke/VarHandle") (hM : own_Met l Z [] y bytes maxL ret rm as' h Q) {W : Nat} (hf : rm.frames + 1 ≤ R.frames) (hl : W + (maxL + 11) + rm.locals ≤ R.locals) (eT : T.heap = h)
    {g : JFrame} (hg : g.method = m) (hsize : g.locals.size = c.maxLocals) {argsL rest : List Value} (hlen : ∀ sig, parseMethodDescriptor y.desc = some sig → argsL.length = sig.parameters.length) (has : argsL.toArray = as') (hstack : g.stack = argsL.reverse ++ rest) (hW : 2 * g.monitorRoom + (rest.map fun v => v.category).sum ≤ W)
    (hdg : decode c.code g.pc = .ok (.invokestatic index, 3)) (hc : cells + rm.cells ≤ R.cells) (hs : slots + rm.slots ≤ R.slots) :
    ∃ v T' L, Stand p l e R s m args below meth c T' (locs ++ L) (cells + rm.cells) (slots + rm.slots) ∧ Q v T'.heap L ∧ ∀ t, Steps p.tables e below (T'.setTop { g with pc := g.pc + 3, stack := v.toList ++ rest }) t → Steps p.tables e below (T.setTop g) t := by
  obtain ⟨v, vm1, ⟨T', L', k', n'⟩, -, X', ⟨Lc, hQ, l1, y1, z1⟩, st⟩ := Jvm.LawKit.callS X hx (y := y) hown (mvT hZ w1) (mvT hZ w2) (mvT hZ w3) (mvT hZ w4) hy (backOf (W := W) hM hZ w4 w3 hf hl) (g := g) hg hsize (argsL := argsL) (rest := rest) hlen hstack hW hdg (fun _ _ => ⟨has, eT, hc, hs⟩)
  dsimp only [Pt.U, Pt.locs, Pt.cells, Pt.slots] at X' l1 y1 z1 st hQ
  subst l1 y1 z1
  exact ⟨v, T', Lc, X', hQ, st⟩
theorem own_callN (X : Stand p l e R s m args below meth c T locs cells slots) (hx : p.tables.exec = Jvm.exec) (hZ : Z.Warmed39 s.vm) {own : String} {index : Nat} {y : MethodName} {bytes : ByteArray} {maxL : Nat} {rm : Room} {as' : Array Value} (hy1 : y.name = "<init>")
    (hown : s.vm.findClass own = some m.cls) (w1 : (Jvm.Cond.methodLink own index y).before a0 Z = true) (w2 : (Jvm.Cond.instanceMethod y).before a0 Z = true) (w3 : (Jvm.Cond.initialized y.cls).before a0 Z = true) (w4 : (Jvm.Cond.code y bytes maxL none).before a0 Z = true)
    (hy : y.cls ≠ "java/lang/invoke/MethodHandle" ∧ y.cls ≠ "java/lang/invoke/VarHandle") (hM : own_Met l Z [] y bytes maxL none rm as' h Q) {W : Nat} (hf : rm.frames + 1 ≤ R.frames) (hl : W + (maxL + 11) + rm.locals ≤ R.locals) {a : Addr} (eT : T.heap = h)
    {g : JFrame} (hg : g.method = m) (hsize : g.locals.size = c.maxLocals) {argsL rest : List Value} (hlen : ∀ sig, parseMethodDescriptor y.desc = some sig → argsL.length = sig.parameters.length) (has : (.ref a :: argsL).toArray = as') (hstack : g.stack = argsL.reverse ++ .ref a :: rest) (hW : 2 * g.monitorRoom + (rest.map fun v => v.category).sum ≤ W)
    (hdg : decode c.code g.pc = .ok (.invokespecial index, 3)) (hc : cells + rm.cells ≤ R.cells) (hs : slots + rm.slots ≤ R.slots) :
    ∃ v T' L, Stand p l e R s m args below meth c T' (locs ++ L) (cells + rm.cells) (slots + rm.slots) ∧ Q v T'.heap L ∧ ∀ t, Steps p.tables e below (T'.setTop { g with pc := g.pc + 3, stack := v.toList ++ rest }) t → Steps p.tables e below (T.setTop g) t := by
  obtain ⟨v, vm1, ⟨T', L', k', n'⟩, -, X', ⟨Lc, hQ, l1, y1, z1⟩, st⟩ := X.specialBack hx (y := y) hy1 hown (mvT hZ w1) (mvT hZ w2) (mvT hZ w4) hy (backOf (W := W) hM hZ w4 w3 hf hl) (g := g) hg hsize (Steps.refl _) (a := a) (argsL := argsL) (rest := rest) hlen hstack hW hdg (fun _ _ => ⟨has, eT, hc, hs⟩)
  dsimp only [Pt.U, Pt.locs, Pt.cells, Pt.slots] at X' l1 y1 z1 st hQ
  subst l1 y1 z1
  exact ⟨v, T', Lc, X', hQ, fun t k => st.trans k⟩
theorem own_callV (X : Stand p l e R s m args below meth c T locs cells slots) (hx : p.tables.exec = Jvm.exec) (hZ : Z.Warmed39 s.vm) {own C : String} {index : Nat} {y : MethodName} {bytes : ByteArray} {maxL : Nat} {ret : Option FieldType} {rm : Room} {as' : Array Value}
    (hown : s.vm.findClass own = some m.cls) (w1 : (Jvm.Cond.methodLink own index y).before a0 Z = true) (w2 : (Jvm.Cond.declares y).before a0 Z = true) (w5 : (Jvm.Cond.selects C y y).before a0 Z = true) (w6 : (Jvm.Cond.instanceMethod y).before a0 Z = true) (w3 : (Jvm.Cond.initialized y.cls).before a0 Z = true) (w4 : (Jvm.Cond.code y bytes maxL ret).before a0 Z = true)
    (hy : y.cls ≠ "java/lang/invoke/MethodHandle" ∧ y.cls ≠ "java/lang/invoke/VarHandle") (hM : own_Met l Z [] y bytes maxL ret rm as' h Q) {W : Nat} (hf : rm.frames + 1 ≤ R.frames) (hl : W + (maxL + 11) + rm.locals ≤ R.locals) {a : Addr} (E : Exa Z h a C) (eT : T.heap = h)
    {g : JFrame} (hg : g.method = m) (hsize : g.locals.size = c.maxLocals) {argsL rest : List Value} (hlen : ∀ sig, parseMethodDescriptor y.desc = some sig → argsL.length = sig.parameters.length) (has : (.ref a :: argsL).toArray = as') (hstack : g.stack = argsL.reverse ++ .ref a :: rest) (hW : 2 * g.monitorRoom + (rest.map fun v => v.category).sum ≤ W)
    (hdg : decode c.code g.pc = .ok (.invokevirtual index, 3)) (hc : cells + rm.cells ≤ R.cells) (hs : slots + rm.slots ≤ R.slots) :
    ∃ v T' L, Stand p l e R s m args below meth c T' (locs ++ L) (cells + rm.cells) (slots + rm.slots) ∧ Q v T'.heap L ∧ ∀ t, Steps p.tables e below (T'.setTop { g with pc := g.pc + 3, stack := v.toList ++ rest }) t → Steps p.tables e below (T.setTop g) t := by
  obtain ⟨cq, kq, qa, qb, qc⟩ := isOf hZ eT E
  obtain ⟨v, vm1, ⟨T', L', k', n'⟩, -, X', ⟨Lc, hQ, l1, y1, z1⟩, st⟩ := X.virtualBack hx (y := y) (z := y) hown (mvT hZ w1) (mvT hZ w2) (notFace_of_selects (args := #[]) (mvT hZ w5)) (mvT hZ w5) (mvT hZ w6) hy (backOf (W := W) hM hZ w4 w3 hf hl) qa qc (g := g) hg hsize (Steps.refl _) (argsL := argsL) (rest := rest) hlen hstack hW hdg (fun _ _ => ⟨has, eT, hc, hs⟩)
  dsimp only [Pt.U, Pt.locs, Pt.cells, Pt.slots] at X' l1 y1 z1 st hQ
  subst l1 y1 z1
  exact ⟨v, T', Lc, X', hQ, fun t k => st.trans k⟩
theorem own_newA (X : Stand p l e R s m args below meth c T locs cells slots) (hx : p.tables.exec = Jvm.exec) (hZ : Z.Warmed39 s.vm) {aty : ArrayType} (w : (Jvm.Cond.arrayClass (newarray.typeOf aty)).before a0 Z = true) (eT : T.heap = h) {ty : FieldType} {dv : Value} (hty : newarray.typeOf aty = ty) (hdv : defaultValue ty = dv)
    {g : JFrame} (hg : g.method = m) (hd : decode c.code g.pc = .ok (.newarray aty, 2)) {n : Int32} {rest : List Value} (hs : g.stack = .int n :: rest) (hn : ¬ n < 0) {cap : Nat} (hcap : n.toNatClampNeg ≤ cap) (hb : cap * 8 ≤ 536870912) (hc : cells + 1 ≤ R.cells) (hl : slots + cap ≤ R.slots) (N : Nat) :
    ∃ T' h' k a, Stand p l e R s m args below meth c T' locs (cells + 1) (slots + cap) ∧ T'.heap = h' ∧ Ext h h' ∧ a = h.size ∧ Arv Z h' a k ty n (List.replicate N dv) dv ∧
      ∀ t, Steps p.tables e below (T'.setTop { g with pc := g.pc + 2, stack := .ref a :: rest }) t → Steps p.tables e below (T.setTop g) t := by
  subst hty hdv
  obtain ⟨T', h', k, X', e', E, A, st⟩ := newP X hx hZ w eT hg hd hs hn hcap hb hc hl
  exact ⟨T', h', k, _, X', e', E, rfl, by simpa using (Arv.new A hn).pad (pad_rep [] _ N), st⟩
theorem own_stI (X : Stand p l e R s m args below meth c T locs cells slots) (hx : p.tables.exec = Jvm.exec) (hZ : Z.Warmed39 s.vm) (eT : T.heap = h) {a : Addr} {k : ClassId} {n : Int32} {vs : List Value} {dv : Value} (F : Arv Z h a k .int n vs dv) {j x : Int32} (hj : ¬ j < 0 ∧ j < n) (i : Nat) (hi : j.toNatClampNeg = i) (hl : i < vs.length)
    {g : JFrame} (hg : g.method = m) {rest : List Value} (hs : g.stack = .int x :: .int j :: .ref a :: rest) (hd : decode c.code g.pc = .ok (.iastore, 1)) :
    ∃ T' h', Stand p l e R s m args below meth c T' (locs ++ [⟨a, j.toNatClampNeg⟩]) cells slots ∧ T'.heap = h' ∧ Arv Z h' a k .int n (vs.set i (.int x)) dv ∧ Wr h h' a j.toNatClampNeg (.int x) ∧ ∀ t, Steps p.tables e below (T'.setTop { g with pc := g.pc + 1, stack := rest }) t → Steps p.tables e below (T.setTop g) t := by
  obtain ⟨cl, A, q1, q2, q3, H, G⟩ := F
  obtain ⟨T', h', X', e', W, st⟩ := stI X hx hZ eT A (j := j) (inb_of q2 hj) hg hs hd
  exact ⟨T', h', X', e', Arv.set A q1 q2 q3 H G rfl W i hi hl, W, st⟩
theorem own_stJ (X : Stand p l e R s m args below meth c T locs cells slots) (hx : p.tables.exec = Jvm.exec) (hZ : Z.Warmed39 s.vm) (eT : T.heap = h) {a : Addr} {k : ClassId} {n : Int32} {vs : List Value} {dv : Value} (F : Arv Z h a k .long n vs dv) {j : Int32} {x : Int64} (hj : ¬ j < 0 ∧ j < n) (i : Nat) (hi : j.toNatClampNeg = i) (hl : i < vs.length)
    {g : JFrame} (hg : g.method = m) {rest : List Value} (hs : g.stack = .long x :: .int j :: .ref a :: rest) (hd : decode c.code g.pc = .ok (.lastore, 1)) :
    ∃ T' h', Stand p l e R s m args below meth c T' (locs ++ [⟨a, j.toNatClampNeg⟩]) cells slots ∧ T'.heap = h' ∧ Arv Z h' a k .long n (vs.set i (.long x)) dv ∧ Wr h h' a j.toNatClampNeg (.long x) ∧ ∀ t, Steps p.tables e below (T'.setTop { g with pc := g.pc + 1, stack := rest }) t → Steps p.tables e below (T.setTop g) t := by
  obtain ⟨cl, A, q1, q2, q3, H, G⟩ := F
  obtain ⟨T', h', X', e', W, st⟩ := stJ X hx hZ eT A (j := j) (inb_of q2 hj) hg hs hd
  exact ⟨T', h', X', e', Arv.set A q1 q2 q3 H G rfl W i hi hl, W, st⟩
theorem own_stB (X : Stand p l e R s m args below meth c T locs cells slots) (hx : p.tables.exec = Jvm.exec) (hZ : Z.Warmed39 s.vm) (eT : T.heap = h) {a : Addr} {k : ClassId} {n : Int32} {vs : List Value} {dv : Value} (F : Arv Z h a k .byte n vs dv) {j x : Int32} (hj : ¬ j < 0 ∧ j < n) (i : Nat) (hi : j.toNatClampNeg = i) (hl : i < vs.length)
    {g : JFrame} (hg : g.method = m) {rest : List Value} (hs : g.stack = .int x :: .int j :: .ref a :: rest) (hd : decode c.code g.pc = .ok (.bastore, 1)) :
    ∃ T' h', Stand p l e R s m args below meth c T' (locs ++ [⟨a, j.toNatClampNeg⟩]) cells slots ∧ T'.heap = h' ∧ Arv Z h' a k .byte n (vs.set i (.int (nar .byte x))) dv ∧ Wr h h' a j.toNatClampNeg (.int (nar .byte x)) ∧ ∀ t, Steps p.tables e below (T'.setTop { g with pc := g.pc + 1, stack := rest }) t → Steps p.tables e below (T.setTop g) t := by
  obtain ⟨cl, A, q1, q2, q3, H, G⟩ := F
  obtain ⟨T', h', X', e', W, st⟩ := stB X hx hZ eT A (j := j) (inb_of q2 hj) hg hs hd
  exact ⟨T', h', X', e', Arv.set A q1 q2 q3 H G (fits_nar_byte x) W i hi hl, W, st⟩
theorem own_nar (y : Int32) : nar .byte y.toInt8.toInt32 = y.toInt8.toInt32 := by
  show y.toInt8.toInt32.toInt8.toInt32 = _
  simp
theorem own_stBn (X : Stand p l e R s m args below meth c T locs cells slots) (hx : p.tables.exec = Jvm.exec) (hZ : Z.Warmed39 s.vm) (eT : T.heap = h) {a : Addr} {k : ClassId} {n : Int32} {vs : List Value} {dv : Value} (F : Arv Z h a k .byte n vs dv) {j x : Int32} (hj : ¬ j < 0 ∧ j < n) (i : Nat) (hi : j.toNatClampNeg = i) (hl : i < vs.length)
    {g : JFrame} (hg : g.method = m) {rest : List Value} (hs : g.stack = .int x.toInt8.toInt32 :: .int j :: .ref a :: rest) (hd : decode c.code g.pc = .ok (.bastore, 1)) :
    ∃ T' h', Stand p l e R s m args below meth c T' (locs ++ [⟨a, j.toNatClampNeg⟩]) cells slots ∧ T'.heap = h' ∧ Arv Z h' a k .byte n (vs.set i (.int x.toInt8.toInt32)) dv ∧ Wr h h' a j.toNatClampNeg (.int x.toInt8.toInt32) ∧ ∀ t, Steps p.tables e below (T'.setTop { g with pc := g.pc + 1, stack := rest }) t → Steps p.tables e below (T.setTop g) t := by
  have h := own_stB X hx hZ eT F hj i hi hl hg hs hd
  rw [own_nar] at h
  exact h
theorem own_ldI (X : Stand p l e R s m args below meth c T locs cells slots) (hx : p.tables.exec = Jvm.exec) (hZ : Z.Warmed39 s.vm) (eT : T.heap = h) {a : Addr} {k : ClassId} {n : Int32} {vs : List Value} {dv v : Value} (F : Arv Z h a k .int n vs dv) {j : Int32} (hj : ¬ j < 0 ∧ j < n) (hv : vs.getD j.toNatClampNeg dv = v)
    {g : JFrame} (hg : g.method = m) {rest : List Value} (hs : g.stack = .int j :: .ref a :: rest) (hd : decode c.code g.pc = .ok (.iaload, 1)) :
    ∀ t, Steps p.tables e below (T.setTop { g with pc := g.pc + 1, stack := v :: rest }) t → Steps p.tables e below (T.setTop g) t := by
  obtain ⟨cl, A, q1, q2, q3, H, G⟩ := F
  have hin := inb_of q2 hj
  exact fun t kt => X.iaload hx (j := j) (v := v) (by rw [eT]; exact A.1) (State.isArrayOf_alike hZ.alike A.2.1) A.2.2 hin (H.at hin hv) hg hs hd _ kt
theorem own_ldJ (X : Stand p l e R s m args below meth c T locs cells slots) (hx : p.tables.exec = Jvm.exec) (hZ : Z.Warmed39 s.vm) (eT : T.heap = h) {a : Addr} {k : ClassId} {n : Int32} {vs : List Value} {dv v : Value} (F : Arv Z h a k .long n vs dv) {j : Int32} (hj : ¬ j < 0 ∧ j < n) (hv : vs.getD j.toNatClampNeg dv = v)
    {g : JFrame} (hg : g.method = m) {rest : List Value} (hs : g.stack = .int j :: .ref a :: rest) (hd : decode c.code g.pc = .ok (.laload, 1)) :
    ∀ t, Steps p.tables e below (T.setTop { g with pc := g.pc + 1, stack := v :: rest }) t → Steps p.tables e below (T.setTop g) t := by
  obtain ⟨cl, A, q1, q2, q3, H, G⟩ := F
  have hin := inb_of q2 hj
  exact fun t kt => X.laload hx (j := j) (v := v) (by rw [eT]; exact A.1) (State.isArrayOf_alike hZ.alike A.2.1) A.2.2 hin (H.at hin hv) hg hs hd _ kt
theorem own_ldB (X : Stand p l e R s m args below meth c T locs cells slots) (hx : p.tables.exec = Jvm.exec) (hZ : Z.Warmed39 s.vm) (eT : T.heap = h) {a : Addr} {k : ClassId} {n : Int32} {vs : List Value} {dv v : Value} (F : Arv Z h a k .byte n vs dv) {j : Int32} (hj : ¬ j < 0 ∧ j < n) (hv : vs.getD j.toNatClampNeg dv = v)
    {g : JFrame} (hg : g.method = m) {rest : List Value} (hs : g.stack = .int j :: .ref a :: rest) (hd : decode c.code g.pc = .ok (.baload, 1)) :
    ∀ t, Steps p.tables e below (T.setTop { g with pc := g.pc + 1, stack := v :: rest }) t → Steps p.tables e below (T.setTop g) t := by
  obtain ⟨cl, A, q1, q2, q3, H, G⟩ := F
  have hin := inb_of q2 hj
  exact fun t kt => X.baloadBytes hx (j := j) (v := v) (by rw [eT]; exact A.1) (State.isArrayOf_alike hZ.alike A.2.1) A.2.2 hin (H.at hin hv) hg hs hd _ kt
theorem own_len (X : Stand p l e R s m args below meth c T locs cells slots) (hx : p.tables.exec = Jvm.exec) (hZ : Z.Warmed39 s.vm) (eT : T.heap = h) {a : Addr} {k : ClassId} {ty : FieldType} {n : Int32} {vs : List Value} {dv : Value} (F : Arv Z h a k ty n vs dv)
    {g : JFrame} (hg : g.method = m) {rest : List Value} (hs : g.stack = .ref a :: rest) (hd : decode c.code g.pc = .ok (.arraylength, 1)) :
    ∀ t, Steps p.tables e below (T.setTop { g with pc := g.pc + 1, stack := .int n :: rest }) t → Steps p.tables e below (T.setTop g) t := by
  obtain ⟨cl, A, q1, q2, q3, H, G⟩ := F
  exact fun t kt => X.arraylength hx (by rw [eT]; exact A.1) (State.isArrayOf_alike hZ.alike A.2.1) hg hs hd _ (by rw [len_of q2 q3]; exact kt)
end Own
def own_may (m : Int32) : Int32 := if m = 217 ∨ m = 218 ∨ m = 219 ∨ m = 196 ∨ m = 204 ∨ m = 221 ∨ m = 220 ∨ m = 254 ∨ (¬ m < 224 ∧ ¬ 239 < m) then 1 else 0
def own_exp (m : Int32) : Int32 := if m < 192 then 0 else if 255 < m then 0 else if ((((4611967490149322768 : Int64).toUInt64 >>> ((m - (192 : Int32)) &&& 0x3f).toInt64.toUInt64).toInt64) &&& (1 : Int64)) = (0 : Int64) then 0 else 1
theorem own_b1 {f : Int32} (h : f = 1) : some (Value.int (nar .boolean (1 : Int32))) = some (.int f) := by rw [h]; rfl
theorem own_b0 {f : Int32} (h : f = 0) : some (Value.int (nar .boolean (0 : Int32))) = some (.int f) := by rw [h]; rfl
theorem own_in : ∀ k : Fin 64, own_may (Int32.ofNat (192 + k.val)) = own_exp (Int32.ofNat (192 + k.val)) := by decide +kernel
theorem own_law (m : Int32) : own_may m = own_exp m := by
  by_cases h1 : m < 192
  · have h : own_may m = 0 := by
      unfold own_may; rw [if_neg]; intro h
      rw [Int32.lt_iff_toInt_lt] at h1
      have q : (192 : Int32).toInt = 192 := by decide
      rcases h with rfl | rfl | rfl | rfl | rfl | rfl | rfl | rfl | ⟨h, -⟩
      all_goals first | (revert h1; decide) | (rw [Int32.lt_iff_toInt_lt] at h; have q2 : (224 : Int32).toInt = 224 := by decide
                                               omega)
    rw [h]; unfold own_exp; rw [if_pos h1]
  · by_cases h2 : 255 < m
    · have h : own_may m = 0 := by
        unfold own_may; rw [if_neg]; intro h
        rw [Int32.lt_iff_toInt_lt] at h2
        have q : (255 : Int32).toInt = 255 := by decide
        rcases h with rfl | rfl | rfl | rfl | rfl | rfl | rfl | rfl | ⟨-, h⟩
        all_goals first | (revert h2; decide) | (rw [Int32.lt_iff_toInt_lt] at h; have q2 : (239 : Int32).toInt = 239 := by decide
                                                 omega)
      rw [h]; unfold own_exp; rw [if_neg h1, if_pos h2]
    · rw [Int32.lt_iff_toInt_lt] at h1 h2
      have q : (192 : Int32).toInt = 192 := by decide
      have q2 : (255 : Int32).toInt = 255 := by decide
      have e : m = Int32.ofNat (192 + (m.toInt - 192).toNat) := by
        apply Int32.toInt_inj.mp
        rw [Int32.toInt_ofNat_of_lt (by omega)]; omega
      have hlt : (m.toInt - 192).toNat < 64 := by omega
      have := own_in ⟨_, hlt⟩
      rw [← e] at this; exact this
theorem d1_0 : decode prog_42_method_4_code 0 = .ok (.iload_n 0, 1) := by decide +kernel
theorem d1_1 : decode prog_42_method_4_code 1 = .ok (.sipush 217, 3) := by decide +kernel
theorem d1_4 : decode prog_42_method_4_code 4 = .ok (.if_icmp .eq 66, 3) := by decide +kernel
theorem d1_7 : decode prog_42_method_4_code 7 = .ok (.iload_n 0, 1) := by decide +kernel
theorem d1_8 : decode prog_42_method_4_code 8 = .ok (.sipush 218, 3) := by decide +kernel
theorem d1_11 : decode prog_42_method_4_code 11 = .ok (.if_icmp .eq 59, 3) := by decide +kernel
theorem d1_14 : decode prog_42_method_4_code 14 = .ok (.iload_n 0, 1) := by decide +kernel
theorem d1_15 : decode prog_42_method_4_code 15 = .ok (.sipush 219, 3) := by decide +kernel
theorem d1_18 : decode prog_42_method_4_code 18 = .ok (.if_icmp .eq 52, 3) := by decide +kernel
theorem d1_21 : decode prog_42_method_4_code 21 = .ok (.iload_n 0, 1) := by decide +kernel
theorem d1_22 : decode prog_42_method_4_code 22 = .ok (.sipush 196, 3) := by decide +kernel
theorem d1_25 : decode prog_42_method_4_code 25 = .ok (.if_icmp .eq 45, 3) := by decide +kernel
theorem d1_28 : decode prog_42_method_4_code 28 = .ok (.iload_n 0, 1) := by decide +kernel
theorem d1_29 : decode prog_42_method_4_code 29 = .ok (.sipush 204, 3) := by decide +kernel
theorem d1_32 : decode prog_42_method_4_code 32 = .ok (.if_icmp .eq 38, 3) := by decide +kernel
theorem d1_35 : decode prog_42_method_4_code 35 = .ok (.iload_n 0, 1) := by decide +kernel
theorem d1_36 : decode prog_42_method_4_code 36 = .ok (.sipush 221, 3) := by decide +kernel
theorem d1_39 : decode prog_42_method_4_code 39 = .ok (.if_icmp .eq 31, 3) := by decide +kernel
theorem d1_42 : decode prog_42_method_4_code 42 = .ok (.iload_n 0, 1) := by decide +kernel
theorem d1_43 : decode prog_42_method_4_code 43 = .ok (.sipush 220, 3) := by decide +kernel
theorem d1_46 : decode prog_42_method_4_code 46 = .ok (.if_icmp .eq 24, 3) := by decide +kernel
theorem d1_49 : decode prog_42_method_4_code 49 = .ok (.iload_n 0, 1) := by decide +kernel
theorem d1_50 : decode prog_42_method_4_code 50 = .ok (.sipush 254, 3) := by decide +kernel
theorem d1_53 : decode prog_42_method_4_code 53 = .ok (.if_icmp .eq 17, 3) := by decide +kernel
theorem d1_56 : decode prog_42_method_4_code 56 = .ok (.iload_n 0, 1) := by decide +kernel
theorem d1_57 : decode prog_42_method_4_code 57 = .ok (.sipush 224, 3) := by decide +kernel
theorem d1_60 : decode prog_42_method_4_code 60 = .ok (.if_icmp .lt 14, 3) := by decide +kernel
theorem d1_63 : decode prog_42_method_4_code 63 = .ok (.iload_n 0, 1) := by decide +kernel
theorem d1_64 : decode prog_42_method_4_code 64 = .ok (.sipush 239, 3) := by decide +kernel
theorem d1_67 : decode prog_42_method_4_code 67 = .ok (.if_icmp .gt 7, 3) := by decide +kernel
theorem d1_70 : decode prog_42_method_4_code 70 = .ok (.iconst 1, 1) := by decide +kernel
theorem d1_71 : decode prog_42_method_4_code 71 = .ok (.goto 4, 3) := by decide +kernel
theorem d1_74 : decode prog_42_method_4_code 74 = .ok (.iconst 0, 1) := by decide +kernel
theorem d1_75 : decode prog_42_method_4_code 75 = .ok (.ireturn, 1) := by decide +kernel
theorem pn_1 : plainFor (⟨"com/example/libcoef/libcoef/JpegMarker", "mayFollowScan", "(I)Z"⟩ : MethodName) = true := plainFor_of_name (by first | (simp [plainName, overriddenIn]; done) | decide +kernel)
theorem ef_1 (m : MethodId) (x0 : Int32) : entryFrame m #[(.int x0)] 1 = mkF m 0 #[.val (.int x0)] [] := by first | (simp [entryFrame, mkF, argsToLocals, Value.category]; done) | rfl
set_option maxRecDepth 65536 in
set_option maxHeartbeats 40000000 in
theorem rm1 (l : Launch) (Z : State) (a0 : Array Value) (hw : ∀ d ∈ tables_1, d.before a0 Z = true) (p1 : Int32)  (h0 : Heap) (n0 : Nat) (Z0 : n0 ≤ h0.size)  :
    own_Met l Z [] (⟨"com/example/libcoef/libcoef/JpegMarker", "mayFollowScan", "(I)Z"⟩ : MethodName) prog_42_method_4_code 1 (some .boolean) ({ frames := 0, cells := 0, slots := 0, locals := 0 } : Room) #[(.int p1)] h0 (own_QP (some (.int (own_may p1))) h0 n0) := by
  refine own_enter pn_1 ?_
  intro p e s m below meth c s₁ X0 hx hby hml hown hret hlk hnm hZ e0
  have hml : c.maxLocals = 1 := hml
  have N0 := Fr.nil n0
  rw [ef_1 m p1]
  show own_Fin p e below s _ _ _ (s₁.setTop (mkF m 0 #[.val (.int p1)] []))
  refine own_Fin.step (fun _ => XS.iloadN X0.here hx rfl (hb hby d1_0) rfl) ?_
  show own_Fin p e below s _ _ _ (s₁.setTop (mkF m 1 #[.val (.int p1)] [(.int p1)]))
  refine own_Fin.step (fun _ => XS.sipush X0.here hx rfl (hb hby d1_1)) ?_
  show own_Fin p e below s _ _ _ (s₁.setTop (mkF m 4 #[.val (.int p1)] [(.int (217 : Int32)), (.int p1)]))
  by_cases hc4_1 : p1 = (217 : Int32)
  ·
    refine own_Fin.step (fun _ => XS.icmpYes X0.here hx rfl (pc0 := 4) (pc' := 70) rfl (hb hby d1_4) rfl (XT.ii_eq_t hc4_1) (by decide) (by decide)) ?_
    show own_Fin p e below s _ _ _ (s₁.setTop (mkF m 70 #[.val (.int p1)] []))
    refine own_Fin.step (fun _ => XS.iconst X0.here hx rfl (hb hby d1_70)) ?_
    show own_Fin p e below s _ _ _ (s₁.setTop (mkF m 71 #[.val (.int p1)] [(.int (1 : Int32))]))
    refine own_Fin.step (fun _ => XS.goto X0.here hx rfl (pc0 := 71) (pc' := 75) rfl (hb hby d1_71) (by decide) (by decide)) ?_
    show own_Fin p e below s _ _ _ (s₁.setTop (mkF m 75 #[.val (.int p1)] [(.int (1 : Int32))]))
    exact own_retN X0 hx hlk (t := .boolean) hret (by simp) (hb hby d1_75) ⟨own_b1 (by simp [own_may, hc4_1]), N0, e0⟩ (by decide) (by decide)
  ·
    refine own_Fin.step (fun _ => XS.icmpNo X0.here hx rfl (hb hby d1_4) rfl (XT.ii_eq_f hc4_1)) ?_
    show own_Fin p e below s _ _ _ (s₁.setTop (mkF m 7 #[.val (.int p1)] []))
    refine own_Fin.step (fun _ => XS.iloadN X0.here hx rfl (hb hby d1_7) rfl) ?_
    show own_Fin p e below s _ _ _ (s₁.setTop (mkF m 8 #[.val (.int p1)] [(.int p1)]))
    refine own_Fin.step (fun _ => XS.sipush X0.here hx rfl (hb hby d1_8)) ?_
    show own_Fin p e below s _ _ _ (s₁.setTop (mkF m 11 #[.val (.int p1)] [(.int (218 : Int32)), (.int p1)]))
    by_cases hc11_2 : p1 = (218 : Int32)
    ·
      refine own_Fin.step (fun _ => XS.icmpYes X0.here hx rfl (pc0 := 11) (pc' := 70) rfl (hb hby d1_11) rfl (XT.ii_eq_t hc11_2) (by decide) (by decide)) ?_
      show own_Fin p e below s _ _ _ (s₁.setTop (mkF m 70 #[.val (.int p1)] []))
      refine own_Fin.step (fun _ => XS.iconst X0.here hx rfl (hb hby d1_70)) ?_
      show own_Fin p e below s _ _ _ (s₁.setTop (mkF m 71 #[.val (.int p1)] [(.int (1 : Int32))]))
      refine own_Fin.step (fun _ => XS.goto X0.here hx rfl (pc0 := 71) (pc' := 75) rfl (hb hby d1_71) (by decide) (by decide)) ?_
      show own_Fin p e below s _ _ _ (s₁.setTop (mkF m 75 #[.val (.int p1)] [(.int (1 : Int32))]))
      exact own_retN X0 hx hlk (t := .boolean) hret (by simp) (hb hby d1_75) ⟨own_b1 (by simp [own_may, hc4_1, hc11_2]), N0, e0⟩ (by decide) (by decide)
    ·
      refine own_Fin.step (fun _ => XS.icmpNo X0.here hx rfl (hb hby d1_11) rfl (XT.ii_eq_f hc11_2)) ?_
      show own_Fin p e below s _ _ _ (s₁.setTop (mkF m 14 #[.val (.int p1)] []))
      refine own_Fin.step (fun _ => XS.iloadN X0.here hx rfl (hb hby d1_14) rfl) ?_
      show own_Fin p e below s _ _ _ (s₁.setTop (mkF m 15 #[.val (.int p1)] [(.int p1)]))
      refine own_Fin.step (fun _ => XS.sipush X0.here hx rfl (hb hby d1_15)) ?_
      show own_Fin p e below s _ _ _ (s₁.setTop (mkF m 18 #[.val (.int p1)] [(.int (219 : Int32)), (.int p1)]))
      by_cases hc18_3 : p1 = (219 : Int32)
      ·
        refine own_Fin.step (fun _ => XS.icmpYes X0.here hx rfl (pc0 := 18) (pc' := 70) rfl (hb hby d1_18) rfl (XT.ii_eq_t hc18_3) (by decide) (by decide)) ?_
        show own_Fin p e below s _ _ _ (s₁.setTop (mkF m 70 #[.val (.int p1)] []))
        refine own_Fin.step (fun _ => XS.iconst X0.here hx rfl (hb hby d1_70)) ?_
        show own_Fin p e below s _ _ _ (s₁.setTop (mkF m 71 #[.val (.int p1)] [(.int (1 : Int32))]))
        refine own_Fin.step (fun _ => XS.goto X0.here hx rfl (pc0 := 71) (pc' := 75) rfl (hb hby d1_71) (by decide) (by decide)) ?_
        show own_Fin p e below s _ _ _ (s₁.setTop (mkF m 75 #[.val (.int p1)] [(.int (1 : Int32))]))
        exact own_retN X0 hx hlk (t := .boolean) hret (by simp) (hb hby d1_75) ⟨own_b1 (by simp [own_may, hc4_1, hc11_2, hc18_3]), N0, e0⟩ (by decide) (by decide)
      ·
        refine own_Fin.step (fun _ => XS.icmpNo X0.here hx rfl (hb hby d1_18) rfl (XT.ii_eq_f hc18_3)) ?_
        show own_Fin p e below s _ _ _ (s₁.setTop (mkF m 21 #[.val (.int p1)] []))
        refine own_Fin.step (fun _ => XS.iloadN X0.here hx rfl (hb hby d1_21) rfl) ?_
        show own_Fin p e below s _ _ _ (s₁.setTop (mkF m 22 #[.val (.int p1)] [(.int p1)]))
        refine own_Fin.step (fun _ => XS.sipush X0.here hx rfl (hb hby d1_22)) ?_
        show own_Fin p e below s _ _ _ (s₁.setTop (mkF m 25 #[.val (.int p1)] [(.int (196 : Int32)), (.int p1)]))
        by_cases hc25_4 : p1 = (196 : Int32)
        ·
          refine own_Fin.step (fun _ => XS.icmpYes X0.here hx rfl (pc0 := 25) (pc' := 70) rfl (hb hby d1_25) rfl (XT.ii_eq_t hc25_4) (by decide) (by decide)) ?_
          show own_Fin p e below s _ _ _ (s₁.setTop (mkF m 70 #[.val (.int p1)] []))
          refine own_Fin.step (fun _ => XS.iconst X0.here hx rfl (hb hby d1_70)) ?_
          show own_Fin p e below s _ _ _ (s₁.setTop (mkF m 71 #[.val (.int p1)] [(.int (1 : Int32))]))
          refine own_Fin.step (fun _ => XS.goto X0.here hx rfl (pc0 := 71) (pc' := 75) rfl (hb hby d1_71) (by decide) (by decide)) ?_
          show own_Fin p e below s _ _ _ (s₁.setTop (mkF m 75 #[.val (.int p1)] [(.int (1 : Int32))]))
          exact own_retN X0 hx hlk (t := .boolean) hret (by simp) (hb hby d1_75) ⟨own_b1 (by simp [own_may, hc4_1, hc11_2, hc18_3, hc25_4]), N0, e0⟩ (by decide) (by decide)
        ·
          refine own_Fin.step (fun _ => XS.icmpNo X0.here hx rfl (hb hby d1_25) rfl (XT.ii_eq_f hc25_4)) ?_
          show own_Fin p e below s _ _ _ (s₁.setTop (mkF m 28 #[.val (.int p1)] []))
          refine own_Fin.step (fun _ => XS.iloadN X0.here hx rfl (hb hby d1_28) rfl) ?_
          show own_Fin p e below s _ _ _ (s₁.setTop (mkF m 29 #[.val (.int p1)] [(.int p1)]))
          refine own_Fin.step (fun _ => XS.sipush X0.here hx rfl (hb hby d1_29)) ?_
          show own_Fin p e below s _ _ _ (s₁.setTop (mkF m 32 #[.val (.int p1)] [(.int (204 : Int32)), (.int p1)]))
          by_cases hc32_5 : p1 = (204 : Int32)
          ·
            refine own_Fin.step (fun _ => XS.icmpYes X0.here hx rfl (pc0 := 32) (pc' := 70) rfl (hb hby d1_32) rfl (XT.ii_eq_t hc32_5) (by decide) (by decide)) ?_
            show own_Fin p e below s _ _ _ (s₁.setTop (mkF m 70 #[.val (.int p1)] []))
            refine own_Fin.step (fun _ => XS.iconst X0.here hx rfl (hb hby d1_70)) ?_
            show own_Fin p e below s _ _ _ (s₁.setTop (mkF m 71 #[.val (.int p1)] [(.int (1 : Int32))]))
            refine own_Fin.step (fun _ => XS.goto X0.here hx rfl (pc0 := 71) (pc' := 75) rfl (hb hby d1_71) (by decide) (by decide)) ?_
            show own_Fin p e below s _ _ _ (s₁.setTop (mkF m 75 #[.val (.int p1)] [(.int (1 : Int32))]))
            exact own_retN X0 hx hlk (t := .boolean) hret (by simp) (hb hby d1_75) ⟨own_b1 (by simp [own_may, hc4_1, hc11_2, hc18_3, hc25_4, hc32_5]), N0, e0⟩ (by decide) (by decide)
          ·
            refine own_Fin.step (fun _ => XS.icmpNo X0.here hx rfl (hb hby d1_32) rfl (XT.ii_eq_f hc32_5)) ?_
            show own_Fin p e below s _ _ _ (s₁.setTop (mkF m 35 #[.val (.int p1)] []))
            refine own_Fin.step (fun _ => XS.iloadN X0.here hx rfl (hb hby d1_35) rfl) ?_
            show own_Fin p e below s _ _ _ (s₁.setTop (mkF m 36 #[.val (.int p1)] [(.int p1)]))
            refine own_Fin.step (fun _ => XS.sipush X0.here hx rfl (hb hby d1_36)) ?_
            show own_Fin p e below s _ _ _ (s₁.setTop (mkF m 39 #[.val (.int p1)] [(.int (221 : Int32)), (.int p1)]))
            by_cases hc39_6 : p1 = (221 : Int32)
            ·
              refine own_Fin.step (fun _ => XS.icmpYes X0.here hx rfl (pc0 := 39) (pc' := 70) rfl (hb hby d1_39) rfl (XT.ii_eq_t hc39_6) (by decide) (by decide)) ?_
              show own_Fin p e below s _ _ _ (s₁.setTop (mkF m 70 #[.val (.int p1)] []))
              refine own_Fin.step (fun _ => XS.iconst X0.here hx rfl (hb hby d1_70)) ?_
              show own_Fin p e below s _ _ _ (s₁.setTop (mkF m 71 #[.val (.int p1)] [(.int (1 : Int32))]))
              refine own_Fin.step (fun _ => XS.goto X0.here hx rfl (pc0 := 71) (pc' := 75) rfl (hb hby d1_71) (by decide) (by decide)) ?_
              show own_Fin p e below s _ _ _ (s₁.setTop (mkF m 75 #[.val (.int p1)] [(.int (1 : Int32))]))
              exact own_retN X0 hx hlk (t := .boolean) hret (by simp) (hb hby d1_75) ⟨own_b1 (by simp [own_may, hc4_1, hc11_2, hc18_3, hc25_4, hc32_5, hc39_6]), N0, e0⟩ (by decide) (by decide)
            ·
              refine own_Fin.step (fun _ => XS.icmpNo X0.here hx rfl (hb hby d1_39) rfl (XT.ii_eq_f hc39_6)) ?_
              show own_Fin p e below s _ _ _ (s₁.setTop (mkF m 42 #[.val (.int p1)] []))
              refine own_Fin.step (fun _ => XS.iloadN X0.here hx rfl (hb hby d1_42) rfl) ?_
              show own_Fin p e below s _ _ _ (s₁.setTop (mkF m 43 #[.val (.int p1)] [(.int p1)]))
              refine own_Fin.step (fun _ => XS.sipush X0.here hx rfl (hb hby d1_43)) ?_
              show own_Fin p e below s _ _ _ (s₁.setTop (mkF m 46 #[.val (.int p1)] [(.int (220 : Int32)), (.int p1)]))
              by_cases hc46_7 : p1 = (220 : Int32)
              ·
                refine own_Fin.step (fun _ => XS.icmpYes X0.here hx rfl (pc0 := 46) (pc' := 70) rfl (hb hby d1_46) rfl (XT.ii_eq_t hc46_7) (by decide) (by decide)) ?_
                show own_Fin p e below s _ _ _ (s₁.setTop (mkF m 70 #[.val (.int p1)] []))
                refine own_Fin.step (fun _ => XS.iconst X0.here hx rfl (hb hby d1_70)) ?_
                show own_Fin p e below s _ _ _ (s₁.setTop (mkF m 71 #[.val (.int p1)] [(.int (1 : Int32))]))
                refine own_Fin.step (fun _ => XS.goto X0.here hx rfl (pc0 := 71) (pc' := 75) rfl (hb hby d1_71) (by decide) (by decide)) ?_
                show own_Fin p e below s _ _ _ (s₁.setTop (mkF m 75 #[.val (.int p1)] [(.int (1 : Int32))]))
                exact own_retN X0 hx hlk (t := .boolean) hret (by simp) (hb hby d1_75) ⟨own_b1 (by simp [own_may, hc4_1, hc11_2, hc18_3, hc25_4, hc32_5, hc39_6, hc46_7]), N0, e0⟩ (by decide) (by decide)
              ·
                refine own_Fin.step (fun _ => XS.icmpNo X0.here hx rfl (hb hby d1_46) rfl (XT.ii_eq_f hc46_7)) ?_
                show own_Fin p e below s _ _ _ (s₁.setTop (mkF m 49 #[.val (.int p1)] []))
                refine own_Fin.step (fun _ => XS.iloadN X0.here hx rfl (hb hby d1_49) rfl) ?_
                show own_Fin p e below s _ _ _ (s₁.setTop (mkF m 50 #[.val (.int p1)] [(.int p1)]))
                refine own_Fin.step (fun _ => XS.sipush X0.here hx rfl (hb hby d1_50)) ?_
                show own_Fin p e below s _ _ _ (s₁.setTop (mkF m 53 #[.val (.int p1)] [(.int (254 : Int32)), (.int p1)]))
                by_cases hc53_8 : p1 = (254 : Int32)
                ·
                  refine own_Fin.step (fun _ => XS.icmpYes X0.here hx rfl (pc0 := 53) (pc' := 70) rfl (hb hby d1_53) rfl (XT.ii_eq_t hc53_8) (by decide) (by decide)) ?_
                  show own_Fin p e below s _ _ _ (s₁.setTop (mkF m 70 #[.val (.int p1)] []))
                  refine own_Fin.step (fun _ => XS.iconst X0.here hx rfl (hb hby d1_70)) ?_
                  show own_Fin p e below s _ _ _ (s₁.setTop (mkF m 71 #[.val (.int p1)] [(.int (1 : Int32))]))
                  refine own_Fin.step (fun _ => XS.goto X0.here hx rfl (pc0 := 71) (pc' := 75) rfl (hb hby d1_71) (by decide) (by decide)) ?_
                  show own_Fin p e below s _ _ _ (s₁.setTop (mkF m 75 #[.val (.int p1)] [(.int (1 : Int32))]))
                  exact own_retN X0 hx hlk (t := .boolean) hret (by simp) (hb hby d1_75) ⟨own_b1 (by simp [own_may, hc4_1, hc11_2, hc18_3, hc25_4, hc32_5, hc39_6, hc46_7, hc53_8]), N0, e0⟩ (by decide) (by decide)
                ·
                  refine own_Fin.step (fun _ => XS.icmpNo X0.here hx rfl (hb hby d1_53) rfl (XT.ii_eq_f hc53_8)) ?_
                  show own_Fin p e below s _ _ _ (s₁.setTop (mkF m 56 #[.val (.int p1)] []))
                  refine own_Fin.step (fun _ => XS.iloadN X0.here hx rfl (hb hby d1_56) rfl) ?_
                  show own_Fin p e below s _ _ _ (s₁.setTop (mkF m 57 #[.val (.int p1)] [(.int p1)]))
                  refine own_Fin.step (fun _ => XS.sipush X0.here hx rfl (hb hby d1_57)) ?_
                  show own_Fin p e below s _ _ _ (s₁.setTop (mkF m 60 #[.val (.int p1)] [(.int (224 : Int32)), (.int p1)]))
                  by_cases hc60_9 : p1 < (224 : Int32)
                  ·
                    refine own_Fin.step (fun _ => XS.icmpYes X0.here hx rfl (pc0 := 60) (pc' := 74) rfl (hb hby d1_60) rfl (XT.ii_lt_t hc60_9) (by decide) (by decide)) ?_
                    show own_Fin p e below s _ _ _ (s₁.setTop (mkF m 74 #[.val (.int p1)] []))
                    refine own_Fin.step (fun _ => XS.iconst X0.here hx rfl (hb hby d1_74)) ?_
                    show own_Fin p e below s _ _ _ (s₁.setTop (mkF m 75 #[.val (.int p1)] [(.int (0 : Int32))]))
                    exact own_retN X0 hx hlk (t := .boolean) hret (by simp) (hb hby d1_75) ⟨own_b0 (by simp [own_may, hc4_1, hc11_2, hc18_3, hc25_4, hc32_5, hc39_6, hc46_7, hc53_8, hc60_9]), N0, e0⟩ (by decide) (by decide)
                  ·
                    refine own_Fin.step (fun _ => XS.icmpNo X0.here hx rfl (hb hby d1_60) rfl (XT.ii_lt_f hc60_9)) ?_
                    show own_Fin p e below s _ _ _ (s₁.setTop (mkF m 63 #[.val (.int p1)] []))
                    refine own_Fin.step (fun _ => XS.iloadN X0.here hx rfl (hb hby d1_63) rfl) ?_
                    show own_Fin p e below s _ _ _ (s₁.setTop (mkF m 64 #[.val (.int p1)] [(.int p1)]))
                    refine own_Fin.step (fun _ => XS.sipush X0.here hx rfl (hb hby d1_64)) ?_
                    show own_Fin p e below s _ _ _ (s₁.setTop (mkF m 67 #[.val (.int p1)] [(.int (239 : Int32)), (.int p1)]))
                    by_cases hc67_10 : (239 : Int32) < p1
                    ·
                      refine own_Fin.step (fun _ => XS.icmpYes X0.here hx rfl (pc0 := 67) (pc' := 74) rfl (hb hby d1_67) rfl (XT.ii_gt_t hc67_10) (by decide) (by decide)) ?_
                      show own_Fin p e below s _ _ _ (s₁.setTop (mkF m 74 #[.val (.int p1)] []))
                      refine own_Fin.step (fun _ => XS.iconst X0.here hx rfl (hb hby d1_74)) ?_
                      show own_Fin p e below s _ _ _ (s₁.setTop (mkF m 75 #[.val (.int p1)] [(.int (0 : Int32))]))
                      exact own_retN X0 hx hlk (t := .boolean) hret (by simp) (hb hby d1_75) ⟨own_b0 (by simp [own_may, hc4_1, hc11_2, hc18_3, hc25_4, hc32_5, hc39_6, hc46_7, hc53_8, hc60_9, hc67_10]), N0, e0⟩ (by decide) (by decide)
                    ·
                      refine own_Fin.step (fun _ => XS.icmpNo X0.here hx rfl (hb hby d1_67) rfl (XT.ii_gt_f hc67_10)) ?_
                      show own_Fin p e below s _ _ _ (s₁.setTop (mkF m 70 #[.val (.int p1)] []))
                      refine own_Fin.step (fun _ => XS.iconst X0.here hx rfl (hb hby d1_70)) ?_
                      show own_Fin p e below s _ _ _ (s₁.setTop (mkF m 71 #[.val (.int p1)] [(.int (1 : Int32))]))
                      refine own_Fin.step (fun _ => XS.goto X0.here hx rfl (pc0 := 71) (pc' := 75) rfl (hb hby d1_71) (by decide) (by decide)) ?_
                      show own_Fin p e below s _ _ _ (s₁.setTop (mkF m 75 #[.val (.int p1)] [(.int (1 : Int32))]))
                      exact own_retN X0 hx hlk (t := .boolean) hret (by simp) (hb hby d1_75) ⟨own_b1 (by simp [own_may, hc4_1, hc11_2, hc18_3, hc25_4, hc32_5, hc39_6, hc46_7, hc53_8, hc60_9, hc67_10]), N0, e0⟩ (by decide) (by decide)
theorem d2_0 : decode method_2_code 0 = .ok (.iload_n 0, 1) := by decide +kernel
theorem d2_1 : decode method_2_code 1 = .ok (.sipush 192, 3) := by decide +kernel
theorem d2_4 : decode method_2_code 4 = .ok (.if_icmp .lt 10, 3) := by decide +kernel
theorem d2_7 : decode method_2_code 7 = .ok (.iload_n 0, 1) := by decide +kernel
theorem d2_8 : decode method_2_code 8 = .ok (.sipush 255, 3) := by decide +kernel
theorem d2_11 : decode method_2_code 11 = .ok (.if_icmp .le 5, 3) := by decide +kernel
theorem d2_14 : decode method_2_code 14 = .ok (.iconst 0, 1) := by decide +kernel
theorem d2_15 : decode method_2_code 15 = .ok (.ireturn, 1) := by decide +kernel
theorem d2_16 : decode method_2_code 16 = .ok (.ldc2_w 9, 3) := by decide +kernel
theorem d2_19 : decode method_2_code 19 = .ok (.iload_n 0, 1) := by decide +kernel
theorem d2_20 : decode method_2_code 20 = .ok (.sipush 192, 3) := by decide +kernel
theorem d2_23 : decode method_2_code 23 = .ok (.isub, 1) := by decide +kernel
theorem d2_24 : decode method_2_code 24 = .ok (.lushr, 1) := by decide +kernel
theorem d2_25 : decode method_2_code 25 = .ok (.lconst 1, 1) := by decide +kernel
theorem d2_26 : decode method_2_code 26 = .ok (.land, 1) := by decide +kernel
theorem d2_27 : decode method_2_code 27 = .ok (.lconst 0, 1) := by decide +kernel
theorem d2_28 : decode method_2_code 28 = .ok (.lcmp, 1) := by decide +kernel
theorem d2_29 : decode method_2_code 29 = .ok (.ifCond .eq 7, 3) := by decide +kernel
theorem d2_32 : decode method_2_code 32 = .ok (.iconst 1, 1) := by decide +kernel
theorem d2_33 : decode method_2_code 33 = .ok (.goto 4, 3) := by decide +kernel
theorem d2_36 : decode method_2_code 36 = .ok (.iconst 0, 1) := by decide +kernel
theorem d2_37 : decode method_2_code 37 = .ok (.ireturn, 1) := by decide +kernel
theorem pn_2 : plainFor (⟨"com/example/libcoef/libcoef/JpegMarkerMayFollowScanPinLaw", "expected", "(I)Z"⟩ : MethodName) = true := plainFor_of_name (by first | (simp [plainName, overriddenIn]; done) | decide +kernel)
theorem ef_2 (m : MethodId) (x0 : Int32) : entryFrame m #[(.int x0)] 1 = mkF m 0 #[.val (.int x0)] [] := by first | (simp [entryFrame, mkF, argsToLocals, Value.category]; done) | rfl
set_option maxRecDepth 65536 in
set_option maxHeartbeats 40000000 in
theorem rm2 (l : Launch) (Z : State) (a0 : Array Value) (hw : ∀ d ∈ tables_1, d.before a0 Z = true) (p1 : Int32)  (h0 : Heap) (n0 : Nat) (Z0 : n0 ≤ h0.size)  :
    own_Met l Z [] (⟨"com/example/libcoef/libcoef/JpegMarkerMayFollowScanPinLaw", "expected", "(I)Z"⟩ : MethodName) method_2_code 1 (some .boolean) ({ frames := 0, cells := 0, slots := 0, locals := 0 } : Room) #[(.int p1)] h0 (own_QP (some (.int (own_exp p1))) h0 n0) := by
  refine own_enter pn_2 ?_
  intro p e s m below meth c s₁ X0 hx hby hml hown hret hlk hnm hZ e0
  have hml : c.maxLocals = 1 := hml
  have N0 := Fr.nil n0
  rw [ef_2 m p1]
  show own_Fin p e below s _ _ _ (s₁.setTop (mkF m 0 #[.val (.int p1)] []))
  refine own_Fin.step (fun _ => XS.iloadN X0.here hx rfl (hb hby d2_0) rfl) ?_
  show own_Fin p e below s _ _ _ (s₁.setTop (mkF m 1 #[.val (.int p1)] [(.int p1)]))
  refine own_Fin.step (fun _ => XS.sipush X0.here hx rfl (hb hby d2_1)) ?_
  show own_Fin p e below s _ _ _ (s₁.setTop (mkF m 4 #[.val (.int p1)] [(.int (192 : Int32)), (.int p1)]))
  by_cases hc4_1 : p1 < (192 : Int32)
  ·
    refine own_Fin.step (fun _ => XS.icmpYes X0.here hx rfl (pc0 := 4) (pc' := 14) rfl (hb hby d2_4) rfl (XT.ii_lt_t hc4_1) (by decide) (by decide)) ?_
    show own_Fin p e below s _ _ _ (s₁.setTop (mkF m 14 #[.val (.int p1)] []))
    refine own_Fin.step (fun _ => XS.iconst X0.here hx rfl (hb hby d2_14)) ?_
    show own_Fin p e below s _ _ _ (s₁.setTop (mkF m 15 #[.val (.int p1)] [(.int (0 : Int32))]))
    exact own_retN X0 hx hlk (t := .boolean) hret (by simp) (hb hby d2_15) ⟨own_b0 (by unfold own_exp; rw [if_pos hc4_1]), N0, e0⟩ (by decide) (by decide)
  ·
    refine own_Fin.step (fun _ => XS.icmpNo X0.here hx rfl (hb hby d2_4) rfl (XT.ii_lt_f hc4_1)) ?_
    show own_Fin p e below s _ _ _ (s₁.setTop (mkF m 7 #[.val (.int p1)] []))
    refine own_Fin.step (fun _ => XS.iloadN X0.here hx rfl (hb hby d2_7) rfl) ?_
    show own_Fin p e below s _ _ _ (s₁.setTop (mkF m 8 #[.val (.int p1)] [(.int p1)]))
    refine own_Fin.step (fun _ => XS.sipush X0.here hx rfl (hb hby d2_8)) ?_
    show own_Fin p e below s _ _ _ (s₁.setTop (mkF m 11 #[.val (.int p1)] [(.int (255 : Int32)), (.int p1)]))
    by_cases hc11_2 : (255 : Int32) < p1
    ·
      refine own_Fin.step (fun _ => XS.icmpNo X0.here hx rfl (hb hby d2_11) rfl (XT.ii_le_f hc11_2)) ?_
      show own_Fin p e below s _ _ _ (s₁.setTop (mkF m 14 #[.val (.int p1)] []))
      refine own_Fin.step (fun _ => XS.iconst X0.here hx rfl (hb hby d2_14)) ?_
      show own_Fin p e below s _ _ _ (s₁.setTop (mkF m 15 #[.val (.int p1)] [(.int (0 : Int32))]))
      exact own_retN X0 hx hlk (t := .boolean) hret (by simp) (hb hby d2_15) ⟨own_b0 (by unfold own_exp; rw [if_neg hc4_1, if_pos hc11_2]), N0, e0⟩ (by decide) (by decide)
    ·
      refine own_Fin.step (fun _ => XS.icmpYes X0.here hx rfl (pc0 := 11) (pc' := 16) rfl (hb hby d2_11) rfl (XT.ii_le_t hc11_2) (by decide) (by decide)) ?_
      show own_Fin p e below s _ _ _ (s₁.setTop (mkF m 16 #[.val (.int p1)] []))
      refine own_Fin.step (X0.ldc2Long hx hown (mvT hZ (own_w hw 11 rfl)) (g := (mkF m 16 #[.val (.int p1)] [])) rfl (hb hby d2_16)) ?_
      show own_Fin p e below s _ _ _ (s₁.setTop (mkF m 19 #[.val (.int p1)] [(.long (4611967490149322768 : Int64))]))
      refine own_Fin.step (fun _ => XS.iloadN X0.here hx rfl (hb hby d2_19) rfl) ?_
      show own_Fin p e below s _ _ _ (s₁.setTop (mkF m 20 #[.val (.int p1)] [(.int p1), (.long (4611967490149322768 : Int64))]))
      refine own_Fin.step (fun _ => XS.sipush X0.here hx rfl (hb hby d2_20)) ?_
      show own_Fin p e below s _ _ _ (s₁.setTop (mkF m 23 #[.val (.int p1)] [(.int (192 : Int32)), (.int p1), (.long (4611967490149322768 : Int64))]))
      refine own_Fin.step (fun _ => XS.isub X0.here hx rfl (hb hby d2_23) rfl) ?_
      show own_Fin p e below s _ _ _ (s₁.setTop (mkF m 24 #[.val (.int p1)] [(.int (p1 - (192 : Int32))), (.long (4611967490149322768 : Int64))]))
      refine own_Fin.step (fun _ => XS.lushr X0.here hx rfl (hb hby d2_24) rfl) ?_
      show own_Fin p e below s _ _ _ (s₁.setTop (mkF m 25 #[.val (.int p1)] [(.long (((4611967490149322768 : Int64).toUInt64 >>> ((p1 - (192 : Int32)) &&& 0x3f).toInt64.toUInt64).toInt64))]))
      refine own_Fin.step (fun _ => XS.lconst X0.here hx rfl (hb hby d2_25)) ?_
      show own_Fin p e below s _ _ _ (s₁.setTop (mkF m 26 #[.val (.int p1)] [(.long (1 : Int64)), (.long (((4611967490149322768 : Int64).toUInt64 >>> ((p1 - (192 : Int32)) &&& 0x3f).toInt64.toUInt64).toInt64))]))
      refine own_Fin.step (fun _ => XS.land X0.here hx rfl (hb hby d2_26) rfl) ?_
      show own_Fin p e below s _ _ _ (s₁.setTop (mkF m 27 #[.val (.int p1)] [(.long ((((4611967490149322768 : Int64).toUInt64 >>> ((p1 - (192 : Int32)) &&& 0x3f).toInt64.toUInt64).toInt64) &&& (1 : Int64)))]))
      refine own_Fin.step (fun _ => XS.lconst X0.here hx rfl (hb hby d2_27)) ?_
      show own_Fin p e below s _ _ _ (s₁.setTop (mkF m 28 #[.val (.int p1)] [(.long (0 : Int64)), (.long ((((4611967490149322768 : Int64).toUInt64 >>> ((p1 - (192 : Int32)) &&& 0x3f).toInt64.toUInt64).toInt64) &&& (1 : Int64)))]))
      refine own_Fin.step (fun _ => XS.lcmp X0.here hx rfl (hb hby d2_28) rfl) ?_
      show own_Fin p e below s _ _ _ (s₁.setTop (mkF m 29 #[.val (.int p1)] [(.int (XT.cmpL ((((4611967490149322768 : Int64).toUInt64 >>> ((p1 - (192 : Int32)) &&& 0x3f).toInt64.toUInt64).toInt64) &&& (1 : Int64)) (0 : Int64)))]))
      by_cases hc29_3 : ((((4611967490149322768 : Int64).toUInt64 >>> ((p1 - (192 : Int32)) &&& 0x3f).toInt64.toUInt64).toInt64) &&& (1 : Int64)) = (0 : Int64)
      ·
        refine own_Fin.step (fun _ => XS.ifYes X0.here hx rfl (pc0 := 29) (pc' := 36) rfl (hb hby d2_29) rfl (XT.ll_eq_t hc29_3) (by decide) (by decide)) ?_
        show own_Fin p e below s _ _ _ (s₁.setTop (mkF m 36 #[.val (.int p1)] []))
        refine own_Fin.step (fun _ => XS.iconst X0.here hx rfl (hb hby d2_36)) ?_
        show own_Fin p e below s _ _ _ (s₁.setTop (mkF m 37 #[.val (.int p1)] [(.int (0 : Int32))]))
        exact own_retN X0 hx hlk (t := .boolean) hret (by simp) (hb hby d2_37) ⟨own_b0 (by unfold own_exp; rw [if_neg hc4_1, if_neg hc11_2, if_pos hc29_3]), N0, e0⟩ (by decide) (by decide)
      ·
        refine own_Fin.step (fun _ => XS.ifNo X0.here hx rfl (hb hby d2_29) rfl (XT.ll_eq_f hc29_3)) ?_
        show own_Fin p e below s _ _ _ (s₁.setTop (mkF m 32 #[.val (.int p1)] []))
        refine own_Fin.step (fun _ => XS.iconst X0.here hx rfl (hb hby d2_32)) ?_
        show own_Fin p e below s _ _ _ (s₁.setTop (mkF m 33 #[.val (.int p1)] [(.int (1 : Int32))]))
        refine own_Fin.step (fun _ => XS.goto X0.here hx rfl (pc0 := 33) (pc' := 37) rfl (hb hby d2_33) (by decide) (by decide)) ?_
        show own_Fin p e below s _ _ _ (s₁.setTop (mkF m 37 #[.val (.int p1)] [(.int (1 : Int32))]))
        exact own_retN X0 hx hlk (t := .boolean) hret (by simp) (hb hby d2_37) ⟨own_b1 (by unfold own_exp; rw [if_neg hc4_1, if_neg hc11_2, if_neg hc29_3]), N0, e0⟩ (by decide) (by decide)
theorem d3_0 : decode method_3_code 0 = .ok (.iload_n 0, 1) := by decide +kernel
theorem d3_1 : decode method_3_code 1 = .ok (.invokestatic 11, 3) := by decide +kernel
theorem d3_4 : decode method_3_code 4 = .ok (.iload_n 0, 1) := by decide +kernel
theorem d3_5 : decode method_3_code 5 = .ok (.invokestatic 17, 3) := by decide +kernel
theorem d3_8 : decode method_3_code 8 = .ok (.if_icmp .ne 7, 3) := by decide +kernel
theorem d3_11 : decode method_3_code 11 = .ok (.iconst 1, 1) := by decide +kernel
theorem d3_12 : decode method_3_code 12 = .ok (.goto 4, 3) := by decide +kernel
theorem d3_15 : decode method_3_code 15 = .ok (.iconst 0, 1) := by decide +kernel
theorem d3_16 : decode method_3_code 16 = .ok (.ireturn, 1) := by decide +kernel
theorem pn_3 : plainFor (⟨"com/example/libcoef/libcoef/JpegMarkerMayFollowScanPinLaw", "ok", "(I)Z"⟩ : MethodName) = true := plainFor_of_name (by first | (simp [plainName, overriddenIn]; done) | decide +kernel)
theorem ef_3 (m : MethodId) (x0 : Int32) : entryFrame m #[(.int x0)] 1 = mkF m 0 #[.val (.int x0)] [] := by first | (simp [entryFrame, mkF, argsToLocals, Value.category]; done) | rfl
theorem pd_0 : parseMethodDescriptor "(I)Z" = some ⟨[.int], some .boolean⟩ := by decide +kernel
set_option maxRecDepth 65536 in
set_option maxHeartbeats 40000000 in
theorem rm3 (l : Launch) (Z : State) (a0 : Array Value) (hw : ∀ d ∈ tables_1, d.before a0 Z = true) (p1 : Int32)  (h0 : Heap) (n0 : Nat) (Z0 : n0 ≤ h0.size)  :
    own_Met l Z [] (⟨"com/example/libcoef/libcoef/JpegMarkerMayFollowScanPinLaw", "ok", "(I)Z"⟩ : MethodName) method_3_code 1 (some .boolean) ({ frames := 1, cells := 0, slots := 0, locals := 13 } : Room) #[(.int p1)] h0 (own_QP (some (.int (1 : Int32))) h0 n0) := by
  refine own_enter pn_3 ?_
  intro p e s m below meth c s₁ X0 hx hby hml hown hret hlk hnm hZ e0
  have hml : c.maxLocals = 1 := hml
  have N0 := Fr.nil n0
  rw [ef_3 m p1]
  show own_Fin p e below s _ _ _ (s₁.setTop (mkF m 0 #[.val (.int p1)] []))
  refine own_Fin.step (fun _ => XS.iloadN X0.here hx rfl (hb hby d3_0) rfl) ?_
  show own_Fin p e below s _ _ _ (s₁.setTop (mkF m 1 #[.val (.int p1)] [(.int p1)]))
  obtain ⟨_, T1, L1, X1, ⟨rfl, N1q, e1⟩, st1⟩ := own_callS X0 hx hZ hown (own_w hw 4 rfl) (own_w hw 5 rfl) (own_w hw 6 rfl) (own_w hw 7 rfl) (by decide) (rm1 l Z a0 hw p1 h0 n0 Z0) (by decide) (by decide) e0 (W := 0) (g := (mkF m 1 #[.val (.int p1)] [(.int p1)])) rfl (by rw [hml]; rfl) (argsL := [(.int p1)]) (rest := []) (lenOf pd_0 rfl) rfl rfl (by show 2 * 0 + _ ≤ _; exact Nat.le_of_eq rfl) (hb hby d3_1) (by decide) (by decide)
  have N1 := Fr.app N0 N1q
  refine own_Fin.step st1 ?_
  show own_Fin p e below s _ _ _ (T1.setTop (mkF m 4 #[.val (.int p1)] [(.int (own_may p1))]))
  refine own_Fin.step (fun _ => XS.iloadN X1.here hx rfl (hb hby d3_4) rfl) ?_
  show own_Fin p e below s _ _ _ (T1.setTop (mkF m 5 #[.val (.int p1)] [(.int p1), (.int (own_may p1))]))
  obtain ⟨_, T2, L2, X2, ⟨rfl, N2q, e2⟩, st2⟩ := own_callS X1 hx hZ hown (own_w hw 8 rfl) (own_w hw 9 rfl) (own_w hw 2 rfl) (own_w hw 10 rfl) (by decide) (rm2 l Z a0 hw p1 h0 n0 Z0) (by decide) (by decide) e1 (W := 1) (g := (mkF m 5 #[.val (.int p1)] [(.int p1), (.int (own_may p1))])) rfl (by rw [hml]; rfl) (argsL := [(.int p1)]) (rest := [(.int (own_may p1))]) (lenOf pd_0 rfl) rfl rfl (by show 2 * 0 + _ ≤ _; exact Nat.le_of_eq rfl) (hb hby d3_5) (by decide) (by decide)
  have N2 := Fr.app N1 N2q
  refine own_Fin.step st2 ?_
  show own_Fin p e below s _ _ _ (T2.setTop (mkF m 8 #[.val (.int p1)] [(.int (own_exp p1)), (.int (own_may p1))]))
  refine own_Fin.step (fun _ => XS.icmpNo X2.here hx rfl (hb hby d3_8) rfl (XT.ii_ne_f (own_law p1))) ?_
  show own_Fin p e below s _ _ _ (T2.setTop (mkF m 11 #[.val (.int p1)] []))
  refine own_Fin.step (fun _ => XS.iconst X2.here hx rfl (hb hby d3_11)) ?_
  show own_Fin p e below s _ _ _ (T2.setTop (mkF m 12 #[.val (.int p1)] [(.int (1 : Int32))]))
  refine own_Fin.step (fun _ => XS.goto X2.here hx rfl (pc0 := 12) (pc' := 16) rfl (hb hby d3_12) (by decide) (by decide)) ?_
  show own_Fin p e below s _ _ _ (T2.setTop (mkF m 16 #[.val (.int p1)] [(.int (1 : Int32))]))
  exact own_retN X2 hx hlk (t := .boolean) hret (by simp) (hb hby d3_16) ⟨rfl, N2, e2⟩ (by decide) (by decide)
theorem pn_0 : plainFor (⟨"com/example/libcoef/libcoef/JpegMarkerMayFollowScanPinLaw", "law", "(II)Z"⟩ : MethodName) = true := plainFor_of_name (by first | (simp [plainName, overriddenIn]; done) | decide +kernel)
theorem ef_0 (m : MethodId) (x0 : Int32) (x1 : Int32) : entryFrame m #[(.int x0), (.int x1)] maxLocals = mkF m 0 #[.val (.int x0), .val (.int x1), .unset, .unset] [] := by first | (simp [entryFrame, mkF, argsToLocals, Value.category, maxLocals]; done) | rfl
set_option maxRecDepth 65536 in
set_option maxHeartbeats 40000000 in
theorem rm0 (l : Launch) (Z : State) (a0 : Array Value) (hw : ∀ d ∈ tables_1, d.before a0 Z = true) (p1 : Int32) (p2 : Int32)  (h0 : Heap) (n0 : Nat) (Z0 : n0 ≤ h0.size)  :
    own_Met l Z tables_1 x code maxLocals ret room_1 #[(.int p1), (.int p2)] h0 (own_Q0 n0) := by
  refine own_enter pn_0 ?_
  intro p e s m below meth c s₁ X0 hx hby hml hown hret hlk hnm hZ e0
  have hml : c.maxLocals = 4 := hml
  have N0 := Fr.nil n0
  rw [ef_0 m p1 p2]
  show own_Fin p e below s _ _ _ (s₁.setTop (mkF m 0 #[.val (.int p1), .val (.int p2), .unset, .unset] []))
  refine own_Fin.step (fun _ => XS.iloadN X0.here hx rfl (hb hby at_0) rfl) ?_
  show own_Fin p e below s _ _ _ (s₁.setTop (mkF m 1 #[.val (.int p1), .val (.int p2), .unset, .unset] [(.int p2)]))
  refine own_Fin.step (fun _ => XS.sipush X0.here hx rfl (hb hby at_1)) ?_
  show own_Fin p e below s _ _ _ (s₁.setTop (mkF m 4 #[.val (.int p1), .val (.int p2), .unset, .unset] [(.int (255 : Int32)), (.int p2)]))
  refine own_Fin.step (fun _ => XS.iand X0.here hx rfl (hb hby at_4) rfl) ?_
  show own_Fin p e below s _ _ _ (s₁.setTop (mkF m 5 #[.val (.int p1), .val (.int p2), .unset, .unset] [(.int (p2 &&& (255 : Int32)))]))
  refine own_Fin.step (fun _ => XS.istoreN X0.here hx rfl (hb hby at_5) rfl (l' := #[.val (.int p1), .val (.int p2), .val (.int (p2 &&& (255 : Int32))), .unset]) rfl) ?_
  show own_Fin p e below s _ _ _ (s₁.setTop (mkF m 6 #[.val (.int p1), .val (.int p2), .val (.int (p2 &&& (255 : Int32))), .unset] []))
  refine own_Fin.step (fun _ => XS.sipush X0.here hx rfl (hb hby at_6)) ?_
  show own_Fin p e below s _ _ _ (s₁.setTop (mkF m 9 #[.val (.int p1), .val (.int p2), .val (.int (p2 &&& (255 : Int32))), .unset] [(.int (192 : Int32))]))
  refine own_Fin.step (fun _ => XS.iloadN X0.here hx rfl (hb hby at_9) rfl) ?_
  show own_Fin p e below s _ _ _ (s₁.setTop (mkF m 10 #[.val (.int p1), .val (.int p2), .val (.int (p2 &&& (255 : Int32))), .unset] [(.int p2), (.int (192 : Int32))]))
  refine own_Fin.step (fun _ => XS.bipush X0.here hx rfl (hb hby at_10)) ?_
  show own_Fin p e below s _ _ _ (s₁.setTop (mkF m 12 #[.val (.int p1), .val (.int p2), .val (.int (p2 &&& (255 : Int32))), .unset] [(.int (8 : Int32)), (.int p2), (.int (192 : Int32))]))
  refine own_Fin.step (fun _ => XS.iushr X0.here hx rfl (hb hby at_12) rfl) ?_
  show own_Fin p e below s _ _ _ (s₁.setTop (mkF m 13 #[.val (.int p1), .val (.int p2), .val (.int (p2 &&& (255 : Int32))), .unset] [(.int ((p2.toUInt32 >>> ((8 : Int32) &&& 31).toUInt32).toInt32)), (.int (192 : Int32))]))
  refine own_Fin.step (fun _ => XS.bipush X0.here hx rfl (hb hby at_13)) ?_
  show own_Fin p e below s _ _ _ (s₁.setTop (mkF m 15 #[.val (.int p1), .val (.int p2), .val (.int (p2 &&& (255 : Int32))), .unset] [(.int (63 : Int32)), (.int ((p2.toUInt32 >>> ((8 : Int32) &&& 31).toUInt32).toInt32)), (.int (192 : Int32))]))
  refine own_Fin.step (fun _ => XS.iand X0.here hx rfl (hb hby at_15) rfl) ?_
  show own_Fin p e below s _ _ _ (s₁.setTop (mkF m 16 #[.val (.int p1), .val (.int p2), .val (.int (p2 &&& (255 : Int32))), .unset] [(.int (((p2.toUInt32 >>> ((8 : Int32) &&& 31).toUInt32).toInt32) &&& (63 : Int32))), (.int (192 : Int32))]))
  refine own_Fin.step (fun _ => XS.ior X0.here hx rfl (hb hby at_16) rfl) ?_
  show own_Fin p e below s _ _ _ (s₁.setTop (mkF m 17 #[.val (.int p1), .val (.int p2), .val (.int (p2 &&& (255 : Int32))), .unset] [(.int ((192 : Int32) ||| (((p2.toUInt32 >>> ((8 : Int32) &&& 31).toUInt32).toInt32) &&& (63 : Int32))))]))
  refine own_Fin.step (fun _ => XS.istoreN X0.here hx rfl (hb hby at_17) rfl (l' := #[.val (.int p1), .val (.int p2), .val (.int (p2 &&& (255 : Int32))), .val (.int ((192 : Int32) ||| (((p2.toUInt32 >>> ((8 : Int32) &&& 31).toUInt32).toInt32) &&& (63 : Int32))))]) rfl) ?_
  show own_Fin p e below s _ _ _ (s₁.setTop (mkF m 18 #[.val (.int p1), .val (.int p2), .val (.int (p2 &&& (255 : Int32))), .val (.int ((192 : Int32) ||| (((p2.toUInt32 >>> ((8 : Int32) &&& 31).toUInt32).toInt32) &&& (63 : Int32))))] []))
  refine own_Fin.step (fun _ => XS.iloadN X0.here hx rfl (hb hby at_18) rfl) ?_
  show own_Fin p e below s _ _ _ (s₁.setTop (mkF m 19 #[.val (.int p1), .val (.int p2), .val (.int (p2 &&& (255 : Int32))), .val (.int ((192 : Int32) ||| (((p2.toUInt32 >>> ((8 : Int32) &&& 31).toUInt32).toInt32) &&& (63 : Int32))))] [(.int p1)]))
  obtain ⟨_, T1, L1, X1, ⟨rfl, N1q, e1⟩, st1⟩ := own_callS X0 hx hZ hown (own_w hw 0 rfl) (own_w hw 1 rfl) (own_w hw 2 rfl) (own_w hw 3 rfl) (by decide) (rm3 l Z a0 hw p1 h0 n0 Z0) (by decide) (by decide) e0 (W := 0) (g := (mkF m 19 #[.val (.int p1), .val (.int p2), .val (.int (p2 &&& (255 : Int32))), .val (.int ((192 : Int32) ||| (((p2.toUInt32 >>> ((8 : Int32) &&& 31).toUInt32).toInt32) &&& (63 : Int32))))] [(.int p1)])) rfl (by rw [hml]; rfl) (argsL := [(.int p1)]) (rest := []) (lenOf pd_0 rfl) rfl rfl (by show 2 * 0 + _ ≤ _; exact Nat.le_of_eq rfl) (hb hby at_19) (by decide) (by decide)
  have N1 := Fr.app N0 N1q
  refine own_Fin.step st1 ?_
  show own_Fin p e below s _ _ _ (T1.setTop (mkF m 22 #[.val (.int p1), .val (.int p2), .val (.int (p2 &&& (255 : Int32))), .val (.int ((192 : Int32) ||| (((p2.toUInt32 >>> ((8 : Int32) &&& 31).toUInt32).toInt32) &&& (63 : Int32))))] [(.int (1 : Int32))]))
  refine own_Fin.step (fun _ => XS.ifNo X1.here hx rfl (hb hby at_22) rfl (XT.i0_eq_f (by decide : ¬ ((1 : Int32) = (0 : Int32))))) ?_
  show own_Fin p e below s _ _ _ (T1.setTop (mkF m 25 #[.val (.int p1), .val (.int p2), .val (.int (p2 &&& (255 : Int32))), .val (.int ((192 : Int32) ||| (((p2.toUInt32 >>> ((8 : Int32) &&& 31).toUInt32).toInt32) &&& (63 : Int32))))] []))
  refine own_Fin.step (fun _ => XS.iloadN X1.here hx rfl (hb hby at_25) rfl) ?_
  show own_Fin p e below s _ _ _ (T1.setTop (mkF m 26 #[.val (.int p1), .val (.int p2), .val (.int (p2 &&& (255 : Int32))), .val (.int ((192 : Int32) ||| (((p2.toUInt32 >>> ((8 : Int32) &&& 31).toUInt32).toInt32) &&& (63 : Int32))))] [(.int (p2 &&& (255 : Int32)))]))
  obtain ⟨_, T2, L2, X2, ⟨rfl, N2q, e2⟩, st2⟩ := own_callS X1 hx hZ hown (own_w hw 0 rfl) (own_w hw 1 rfl) (own_w hw 2 rfl) (own_w hw 3 rfl) (by decide) (rm3 l Z a0 hw (p2 &&& (255 : Int32)) h0 n0 Z0) (by decide) (by decide) e1 (W := 0) (g := (mkF m 26 #[.val (.int p1), .val (.int p2), .val (.int (p2 &&& (255 : Int32))), .val (.int ((192 : Int32) ||| (((p2.toUInt32 >>> ((8 : Int32) &&& 31).toUInt32).toInt32) &&& (63 : Int32))))] [(.int (p2 &&& (255 : Int32)))])) rfl (by rw [hml]; rfl) (argsL := [(.int (p2 &&& (255 : Int32)))]) (rest := []) (lenOf pd_0 rfl) rfl rfl (by show 2 * 0 + _ ≤ _; exact Nat.le_of_eq rfl) (hb hby at_26) (by decide) (by decide)
  have N2 := Fr.app N1 N2q
  refine own_Fin.step st2 ?_
  show own_Fin p e below s _ _ _ (T2.setTop (mkF m 29 #[.val (.int p1), .val (.int p2), .val (.int (p2 &&& (255 : Int32))), .val (.int ((192 : Int32) ||| (((p2.toUInt32 >>> ((8 : Int32) &&& 31).toUInt32).toInt32) &&& (63 : Int32))))] [(.int (1 : Int32))]))
  refine own_Fin.step (fun _ => XS.ifNo X2.here hx rfl (hb hby at_29) rfl (XT.i0_eq_f (by decide : ¬ ((1 : Int32) = (0 : Int32))))) ?_
  show own_Fin p e below s _ _ _ (T2.setTop (mkF m 32 #[.val (.int p1), .val (.int p2), .val (.int (p2 &&& (255 : Int32))), .val (.int ((192 : Int32) ||| (((p2.toUInt32 >>> ((8 : Int32) &&& 31).toUInt32).toInt32) &&& (63 : Int32))))] []))
  refine own_Fin.step (fun _ => XS.iloadN X2.here hx rfl (hb hby at_32) rfl) ?_
  show own_Fin p e below s _ _ _ (T2.setTop (mkF m 33 #[.val (.int p1), .val (.int p2), .val (.int (p2 &&& (255 : Int32))), .val (.int ((192 : Int32) ||| (((p2.toUInt32 >>> ((8 : Int32) &&& 31).toUInt32).toInt32) &&& (63 : Int32))))] [(.int ((192 : Int32) ||| (((p2.toUInt32 >>> ((8 : Int32) &&& 31).toUInt32).toInt32) &&& (63 : Int32))))]))
  obtain ⟨_, T3, L3, X3, ⟨rfl, N3q, e3⟩, st3⟩ := own_callS X2 hx hZ hown (own_w hw 0 rfl) (own_w hw 1 rfl) (own_w hw 2 rfl) (own_w hw 3 rfl) (by decide) (rm3 l Z a0 hw ((192 : Int32) ||| (((p2.toUInt32 >>> ((8 : Int32) &&& 31).toUInt32).toInt32) &&& (63 : Int32))) h0 n0 Z0) (by decide) (by decide) e2 (W := 0) (g := (mkF m 33 #[.val (.int p1), .val (.int p2), .val (.int (p2 &&& (255 : Int32))), .val (.int ((192 : Int32) ||| (((p2.toUInt32 >>> ((8 : Int32) &&& 31).toUInt32).toInt32) &&& (63 : Int32))))] [(.int ((192 : Int32) ||| (((p2.toUInt32 >>> ((8 : Int32) &&& 31).toUInt32).toInt32) &&& (63 : Int32))))])) rfl (by rw [hml]; rfl) (argsL := [(.int ((192 : Int32) ||| (((p2.toUInt32 >>> ((8 : Int32) &&& 31).toUInt32).toInt32) &&& (63 : Int32))))]) (rest := []) (lenOf pd_0 rfl) rfl rfl (by show 2 * 0 + _ ≤ _; exact Nat.le_of_eq rfl) (hb hby at_33) (by decide) (by decide)
  have N3 := Fr.app N2 N3q
  refine own_Fin.step st3 ?_
  show own_Fin p e below s _ _ _ (T3.setTop (mkF m 36 #[.val (.int p1), .val (.int p2), .val (.int (p2 &&& (255 : Int32))), .val (.int ((192 : Int32) ||| (((p2.toUInt32 >>> ((8 : Int32) &&& 31).toUInt32).toInt32) &&& (63 : Int32))))] [(.int (1 : Int32))]))
  refine own_Fin.step (fun _ => XS.ifNo X3.here hx rfl (hb hby at_36) rfl (XT.i0_eq_f (by decide : ¬ ((1 : Int32) = (0 : Int32))))) ?_
  show own_Fin p e below s _ _ _ (T3.setTop (mkF m 39 #[.val (.int p1), .val (.int p2), .val (.int (p2 &&& (255 : Int32))), .val (.int ((192 : Int32) ||| (((p2.toUInt32 >>> ((8 : Int32) &&& 31).toUInt32).toInt32) &&& (63 : Int32))))] []))
  refine own_Fin.step (fun _ => XS.iconst X3.here hx rfl (hb hby at_39)) ?_
  show own_Fin p e below s _ _ _ (T3.setTop (mkF m 40 #[.val (.int p1), .val (.int p2), .val (.int (p2 &&& (255 : Int32))), .val (.int ((192 : Int32) ||| (((p2.toUInt32 >>> ((8 : Int32) &&& 31).toUInt32).toInt32) &&& (63 : Int32))))] [(.int (1 : Int32))]))
  refine own_Fin.step (fun _ => XS.goto X3.here hx rfl (pc0 := 40) (pc' := 44) rfl (hb hby at_40) (by decide) (by decide)) ?_
  show own_Fin p e below s _ _ _ (T3.setTop (mkF m 44 #[.val (.int p1), .val (.int p2), .val (.int (p2 &&& (255 : Int32))), .val (.int ((192 : Int32) ||| (((p2.toUInt32 >>> ((8 : Int32) &&& 31).toUInt32).toInt32) &&& (63 : Int32))))] [(.int (1 : Int32))]))
  exact own_retN X3 hx hlk (t := .boolean) hret (by simp) (hb hby at_44) ⟨rfl, N3⟩ (by decide) (by decide)
set_option maxRecDepth 65536 in
set_option maxHeartbeats 40000000 in
theorem comes_1 {Post : Tables → Env → Array Value → State → Outcome → State → Prop} (hpost : ∀ tb e args s v u, (limb_1_1.after args s (.returned v) u = true ∧ limb_1_2.after args s (.returned v) u = true ∧ True) → FrameEnd s (.returned v) u (Jvm.fieldLocs frame_1_writes args s ++ Jvm.arrayLocs frame_1_arrays args s ++ Jvm.staticLocs frame_1_statics s) 0 0 → Post tb e args s (.returned v) u) :
    ArmFor flags0 classFile x code maxLocals ret World_1 tables_1 room_1 Calls_1 rest_1 Pre_1 Post := by
  intro l hfl _ _ p e ha hc hk s m args below hf hA hF happ hP
  obtain ⟨hcalls, hrest, hpre⟩ := hP
  obtain ⟨-, -, -, hnamed, -, -, -, hat⟩ := (Spec.applies_iff hf).mp happ
  obtain ⟨hg, hn⟩ := and_e (Cond.before_iff.mp (show (Jvm.Cond.and given_1 narrow_1).before args s = true from hpre))
  obtain ⟨hcount, g0⟩ := and_e hg
  obtain ⟨a0, g1⟩ := and_e g0
  have a1 := g1
  obtain ⟨w0, w1, rfl⟩ : ∃ w0 w1 : Value, args = #[w0, w1] := by
    have hs : args.size = 2 := by simpa [Cond.value, given_1] using hcount
    obtain ⟨L⟩ := args
    match L, hs with
    | [w0, w1], _ => exact ⟨w0, w1, rfl⟩
  have hw := fun d (hd : d ∈ tables_1) => atoms_spec (ws := Jvm.Cond.code x code maxLocals ret :: tables_1) hat d (List.mem_cons_of_mem _ hd)
  obtain ⟨i0, ei0⟩ := is_v a0
  obtain rfl : w0 = (.int i0) := Option.some.inj ei0
  obtain ⟨i1, ei1⟩ := is_v a1
  obtain rfl : w1 = (.int i1) := Option.some.inj ei1
  obtain ⟨n, o, h1, h2, h3, _, L, rfl, ⟨rfl, N⟩, hq⟩ := rm0 l s _ hw i0 i1 s.heap s.heap.size (Nat.le_refl _)  p e ha hc hk s m _ below hf ((Spec.applies_iff_loose hf).mp happ).1 ⟨rfl, State.Warmed39.refl s, rfl⟩ trivial
  refine ⟨n, _, h1, h2, h3, hpost _ _ _ _ _ _ ⟨Cond.after_iff.mpr rfl, Cond.after_iff.mpr (eq_i res_at (Term.int_eval (1)) rfl), trivial⟩ ⟨hq.1, hq.2.1, (hq.2.2.sift fun y hy => Or.inr (N y hy)).mono (by decide) (by decide)⟩⟩
theorem main_1_1 : Claimed_1_1 := comes_1 fun _ _ _ _ _ _ h hF => ⟨h.1, hF⟩
theorem main_1_2 : Claimed_1_2 := comes_1 fun _ _ _ _ _ _ h hF => ⟨h.2.1, hF⟩
end Jvm.Pilot.@@N@@
namespace Jvm.Pilot.@@N@@
open Jvm Jvm.ClassFile Sem Op Lib Jvm.Free Jvm.Stand Jvm.Pilot.@@N@@.Jvm.D
/-! MADE BY PROGRAM (witnessworld.py) out of the Statement's table words and the real class files: 9 classes; the members and pool entries that the words name. The judged class is class 1, her method 3. -/
namespace start1
open Jvm.ClassFile
def u (s : String) : CpInfo := .utf8 (stringToUtf16 s)
/-- a pool by its gaps: so many unusable entries, then the entry; so many at the end -/
def gap : Nat → List CpInfo → List CpInfo
  | 0, r => r
  | n + 1, r => .unusable :: gap n r
def poolList (es : List (Nat × CpInfo)) (last : Nat) : List CpInfo := es.foldr (fun e r => gap e.1 (e.2 :: r)) (gap last [])
def pool (es : List (Nat × CpInfo)) (last : Nat) : Array CpInfo := ⟨poolList es last⟩
def fileOf (pool : Array CpInfo) (this : Nat) (attrs : Array Attribute := #[]) (ms : Array MethodInfo := #[]) (fl : Nat := 33) (sup : Nat := 0) (ifs : Array Nat := #[]) (fds : Array FieldInfo := #[]) : ClassFile where
  minorVersion := 0
  majorVersion := 65
  constantPool := pool
  accessFlags := fl
  thisClass := this
  superClass := sup
  interfaces := ifs
  fields := fds
  methods := ms
  attributes := attrs
def plain (name : String) (sup : Option ClassId) : Class where
  name := name
  kind := .ordinary
  loader := none
  accessFlags := 33
  super := sup
  interfaces := #[]
  cf := none
  fields := #[]
  methods := #[]
  instanceTypes := #[]
  staticTypes := #[]
  resolved := #[]
  callSites := []
  init := .initialized
  statics := none
  mirror := none

def pool0 : Array CpInfo := pool [(5, u "<init>"), (0, u "()V"), (1, .class_ 10), (1, u "java/lang/Object")] 113

def k0m0 : Method := { name := "<init>", desc := "()V", sig := { parameters := [], returnType := none }, accessFlags := 1, code := none }
/-- java/lang/Object -/
def k0 : Class := { plain "java/lang/Object" none with
  accessFlags := 33
  interfaces := #[]
  cf := some (fileOf pool0 8 #[] #[{ accessFlags := 1, nameIndex := 5, descriptorIndex := 6, attributes := #[] }] 33 0 #[] #[])
  fields := #[]
  methods := #[k0m0]
  instanceTypes := #[]
  staticTypes := #[]
  resolved := Array.replicate 124 none
  statics := none }

def pool1 : Array CpInfo := pool [(2, .class_ 4), (1, u "java/lang/Object"), (0, u "<init>"), (0, u "()V"), (0, .class_ 8), (0, u "com/example/libcoef/libcoef/JpegMarkerMayFollowScanPinLaw"), (0, .long 4611967490149322768), (1, .methodref 12 13), (0, .class_ 14), (0, .nameAndType 15 16), (0, u "com/example/libcoef/libcoef/JpegMarker"), (0, u "mayFollowScan"), (0, u "(I)Z"), (0, .methodref 7 18), (0, .nameAndType 19 16), (0, u "expected"), (0, .methodref 7 21), (0, .nameAndType 22 16), (0, u "ok"), (0, u "MASK"), (0, u "J"), (4, u "law"), (0, u "(II)Z")] 2

def k1m0 : Method := { name := "<init>", desc := "()V", sig := { parameters := [], returnType := none }, accessFlags := 2, code := none }
def k1c1 : Code := { maxStack := 4, maxLocals := 1, code := method_2_code, exceptionTable := #[], attributes := #[] }
def k1m1 : Method := { name := "expected", desc := "(I)Z", sig := { parameters := [.int], returnType := some .boolean }, accessFlags := 10, code := some k1c1 }
def k1c2 : Code := { maxStack := 2, maxLocals := 1, code := method_3_code, exceptionTable := #[], attributes := #[] }
def k1m2 : Method := { name := "ok", desc := "(I)Z", sig := { parameters := [.int], returnType := some .boolean }, accessFlags := 10, code := some k1c2 }
def k1c3 : Code := { maxStack := 3, maxLocals := 4, code := code, exceptionTable := #[], attributes := #[] }
def k1m3 : Method := { name := "law", desc := "(II)Z", sig := { parameters := [.int, .int], returnType := some .boolean }, accessFlags := 9, code := some k1c3 }
/-- com/example/libcoef/libcoef/JpegMarkerMayFollowScanPinLaw -/
def k1 : Class := { plain "com/example/libcoef/libcoef/JpegMarkerMayFollowScanPinLaw" (some 0) with
  accessFlags := 49
  interfaces := #[]
  cf := some (fileOf pool1 7 #[] #[{ accessFlags := 2, nameIndex := 5, descriptorIndex := 6, attributes := #[] }, { accessFlags := 10, nameIndex := 19, descriptorIndex := 16, attributes := #[] }, { accessFlags := 10, nameIndex := 22, descriptorIndex := 16, attributes := #[] }, { accessFlags := 9, nameIndex := 29, descriptorIndex := 30, attributes := #[] }] 49 2 #[] #[{ accessFlags := 26, nameIndex := 23, descriptorIndex := 24, attributes := #[] }])
  fields := #[{ name := "MASK", type := .long, accessFlags := 26, slot := 0, constantValue := 0 }]
  methods := #[k1m0, k1m1, k1m2, k1m3]
  instanceTypes := #[]
  staticTypes := #[.long]
  resolved := Array.replicate 33 none
  statics := none }

def pool2 : Array CpInfo := pool [(2, .class_ 4), (1, u "java/lang/Object"), (0, u "<init>"), (0, u "()V"), (0, .class_ 8), (0, u "com/example/libcoef/libcoef/JpegMarker"), (3, u "(I)Z"), (26, u "SOF0"), (0, u "I"), (2, u "SOF1"), (1, u "SOF2"), (1, u "DHT"), (1, u "SOI"), (1, u "EOI"), (1, u "SOS"), (1, u "DQT"), (1, u "DRI"), (1, u "APP0"), (1, u "APP14"), (1, u "RST0"), (1, u "JFIF"), (0, u "Ljava/lang/String;"), (2, u "ADOBE"), (2, u "RST7"), (1, u "TEM"), (1, u "DAC"), (1, u "DNL"), (1, u "APP15"), (1, u "COM"), (5, u "mayFollowScan")] 6

def k2m0 : Method := { name := "<init>", desc := "()V", sig := { parameters := [], returnType := none }, accessFlags := 2, code := none }
def k2c1 : Code := { maxStack := 2, maxLocals := 1, code := prog_42_method_4_code, exceptionTable := #[], attributes := #[] }
def k2m1 : Method := { name := "mayFollowScan", desc := "(I)Z", sig := { parameters := [.int], returnType := some .boolean }, accessFlags := 8, code := some k2c1 }
/-- com/example/libcoef/libcoef/JpegMarker -/
def k2 : Class := { plain "com/example/libcoef/libcoef/JpegMarker" (some 0) with
  accessFlags := 32
  interfaces := #[]
  cf := some (fileOf pool2 7 #[] #[{ accessFlags := 2, nameIndex := 5, descriptorIndex := 6, attributes := #[] }, { accessFlags := 8, nameIndex := 88, descriptorIndex := 12, attributes := #[] }] 32 2 #[] #[{ accessFlags := 24, nameIndex := 39, descriptorIndex := 40, attributes := #[] }, { accessFlags := 24, nameIndex := 43, descriptorIndex := 40, attributes := #[] }, { accessFlags := 24, nameIndex := 45, descriptorIndex := 40, attributes := #[] }, { accessFlags := 24, nameIndex := 47, descriptorIndex := 40, attributes := #[] }, { accessFlags := 24, nameIndex := 49, descriptorIndex := 40, attributes := #[] }, { accessFlags := 24, nameIndex := 51, descriptorIndex := 40, attributes := #[] }, { accessFlags := 24, nameIndex := 53, descriptorIndex := 40, attributes := #[] }, { accessFlags := 24, nameIndex := 55, descriptorIndex := 40, attributes := #[] }, { accessFlags := 24, nameIndex := 57, descriptorIndex := 40, attributes := #[] }, { accessFlags := 24, nameIndex := 59, descriptorIndex := 40, attributes := #[] }, { accessFlags := 24, nameIndex := 61, descriptorIndex := 40, attributes := #[] }, { accessFlags := 24, nameIndex := 63, descriptorIndex := 40, attributes := #[] }, { accessFlags := 24, nameIndex := 65, descriptorIndex := 66, attributes := #[] }, { accessFlags := 24, nameIndex := 69, descriptorIndex := 66, attributes := #[] }, { accessFlags := 26, nameIndex := 72, descriptorIndex := 40, attributes := #[] }, { accessFlags := 26, nameIndex := 74, descriptorIndex := 40, attributes := #[] }, { accessFlags := 26, nameIndex := 76, descriptorIndex := 40, attributes := #[] }, { accessFlags := 26, nameIndex := 78, descriptorIndex := 40, attributes := #[] }, { accessFlags := 26, nameIndex := 80, descriptorIndex := 40, attributes := #[] }, { accessFlags := 26, nameIndex := 82, descriptorIndex := 40, attributes := #[] }])
  fields := #[{ name := "SOF0", type := .int, accessFlags := 24, slot := 0, constantValue := 0 }, { name := "SOF1", type := .int, accessFlags := 24, slot := 1, constantValue := 0 }, { name := "SOF2", type := .int, accessFlags := 24, slot := 2, constantValue := 0 }, { name := "DHT", type := .int, accessFlags := 24, slot := 3, constantValue := 0 }, { name := "SOI", type := .int, accessFlags := 24, slot := 4, constantValue := 0 }, { name := "EOI", type := .int, accessFlags := 24, slot := 5, constantValue := 0 }, { name := "SOS", type := .int, accessFlags := 24, slot := 6, constantValue := 0 }, { name := "DQT", type := .int, accessFlags := 24, slot := 7, constantValue := 0 }, { name := "DRI", type := .int, accessFlags := 24, slot := 8, constantValue := 0 }, { name := "APP0", type := .int, accessFlags := 24, slot := 9, constantValue := 0 }, { name := "APP14", type := .int, accessFlags := 24, slot := 10, constantValue := 0 }, { name := "RST0", type := .int, accessFlags := 24, slot := 11, constantValue := 0 }, { name := "JFIF", type := (.object "java/lang/String"), accessFlags := 24, slot := 12, constantValue := 0 }, { name := "ADOBE", type := (.object "java/lang/String"), accessFlags := 24, slot := 13, constantValue := 0 }, { name := "RST7", type := .int, accessFlags := 26, slot := 14, constantValue := 0 }, { name := "TEM", type := .int, accessFlags := 26, slot := 15, constantValue := 0 }, { name := "DAC", type := .int, accessFlags := 26, slot := 16, constantValue := 0 }, { name := "DNL", type := .int, accessFlags := 26, slot := 17, constantValue := 0 }, { name := "APP15", type := .int, accessFlags := 26, slot := 18, constantValue := 0 }, { name := "COM", type := .int, accessFlags := 26, slot := 19, constantValue := 0 }]
  methods := #[k2m0, k2m1]
  instanceTypes := #[]
  staticTypes := #[.int, .int, .int, .int, .int, .int, .int, .int, .int, .int, .int, .int, (.object "java/lang/String"), (.object "java/lang/String"), .int, .int, .int, .int, .int, .int]
  resolved := Array.replicate 95 none
  statics := none }

def pool3 : Array CpInfo := pool [(1, u "java/lang/Cloneable"), (0, .class_ 1), (0, u "java/lang/Object"), (0, .class_ 3)] 3

/-- java/lang/Cloneable -/
def k3 : Class := { plain "java/lang/Cloneable" (some 0) with
  accessFlags := 1537
  interfaces := #[]
  cf := some (fileOf pool3 2 #[] #[] 1537 4 #[] #[])
  fields := #[]
  methods := #[]
  instanceTypes := #[]
  staticTypes := #[]
  resolved := Array.replicate 8 none
  statics := none }

def pool4 : Array CpInfo := pool [(1, u "java/io/Serializable"), (0, .class_ 1), (0, u "java/lang/Object"), (0, .class_ 3)] 3

/-- java/io/Serializable -/
def k4 : Class := { plain "java/io/Serializable" (some 0) with
  accessFlags := 1537
  interfaces := #[]
  cf := some (fileOf pool4 2 #[] #[] 1537 4 #[] #[])
  fields := #[]
  methods := #[]
  instanceTypes := #[]
  staticTypes := #[]
  resolved := Array.replicate 8 none
  statics := none }

/-- the primitive byte -/
def k5 : Class := { plain "byte" none with kind := .primitive 'B', accessFlags := 0x411 }
/-- [B -/
def k6 : Class := { plain "[B" (some 0) with kind := .array 5 .byte, interfaces := #[3, 4], accessFlags := 1041 }

/-- the primitive int -/
def k7 : Class := { plain "int" none with kind := .primitive 'I', accessFlags := 0x411 }
/-- [I -/
def k8 : Class := { plain "[I" (some 0) with kind := .array 7 .int, interfaces := #[3, 4], accessFlags := 1041 }

def heap : Heap := #[]
def classes : Array Class := #[k0, k1, k2, k3, k4, k5, k6, k7, k8]
def interned : List (Array UInt16 × Addr) := []
def slotsUsed : Nat := 0
def theMethod : MethodId := ⟨1, 3⟩
def args0 : Array Value := #[.int 217, .int 5]
def aboutOver (below : List Frame) : State where
  vm := { classes := classes, interned := interned.toArray }
  heap := heap
  slotsUsed := slotsUsed
  threads := #[{ frames := .invoking theMethod args0 :: below }]
def below0 : List Frame := [.native { method := ⟨0, 0⟩, args := #[] }]
def about1 : State := aboutOver below0
def p0 : Program := .bare "" "" ""
def e0 : Env := launch0.env 0 0 0
theorem w_frames : about1.frames = Frame.invoking theMethod args0 :: below0 := rfl
set_option maxRecDepth 65536 in
theorem w_args : argsFit about1.vm theMethod args0 = true := by decide +kernel
set_option maxRecDepth 65536 in
theorem w_heap : heapFits about1 = true := by decide +kernel
set_option maxRecDepth 65536 in
theorem w_runnable : about1.curStatus? = some .runnable := by decide +kernel
set_option maxRecDepth 65536 in
theorem w_alone : about1.alone = true := by decide +kernel
set_option maxRecDepth 65536 in
theorem w_named : about1.methodNamed? x = some theMethod := by decide +kernel
set_option maxRecDepth 65536 in
theorem w_hears : about1.hears theMethod below0 = true := by decide +kernel
set_option maxRecDepth 65536 in
theorem w_ripe : about1.ripe theMethod args0 below0 = true := by decide +kernel
theorem w_running : about1.status = .running := rfl
set_option maxRecDepth 65536 in
theorem w_room : about1.hasRoom e0.platform room_1 = true :=
  launch0.hasRoom_least _ room_1 (by decide +kernel) (by decide +kernel) (by decide +kernel) (by decide +kernel) (by decide +kernel) (by decide +kernel)
theorem allAtoms_all (ts : List Jvm.Cond) (a : Array Jvm.Value) (st : Jvm.State) : (allAtoms ts).before a st = ts.all (fun c => c.before a st) := by
  induction ts with
  | nil => rfl
  | cons c t ih =>
    show (Jvm.Cond.and c (allAtoms t)).before a st = _
    rw [Jvm.Cond.before_and, ih, List.all_cons]
def words1 : List Jvm.Cond := Jvm.Cond.code x code maxLocals ret :: tables_1
/-- a 'code' word, met by the world's own term for the bytes: nothing is compared byte by byte -/
theorem code_word {y : MethodName} {bytes : ByteArray} {mx : Nat} {rt : Option FieldType} {a : Array Value} {s : State} {m : MethodId} {meth : Method} {c : Code} (h1 : s.methodNamed? y = some m) (h2 : s.vm.method? m = some meth) (h3 : meth.code = some c) (h4 : c.code = bytes)
    (h5 : (c.maxLocals == mx && c.exceptionTable.isEmpty && decide (c.maxStack ≤ mostOperands) && decide (meth.sig.returnType = rt) && !meth.locks && decide (parseMethodDescriptor y.desc = some meth.sig)) = true) : (Jvm.Cond.code y bytes mx rt).before a s = true := by
  simp only [Bool.and_eq_true, beq_iff_eq, Bool.not_eq_true', decide_eq_true_eq] at h5
  obtain ⟨⟨⟨⟨⟨g1, g2⟩, g3⟩, g4⟩, g5⟩, g6⟩ := h5
  simp [Cond.before, Cond.holds, Cond.value, h1, h2, h3, h4, g1, g2, g3, g4, g5, g6]
def isCode : Jvm.Cond → Bool
  | .code _ _ _ _ => true
  | _ => false
theorem all_split {L : List Jvm.Cond} {P : Jvm.Cond → Bool} (h1 : L.all (fun c => isCode c || P c) = true) (h2 : ∀ c ∈ L.filter isCode, P c = true) : L.all P = true := by
  refine List.all_eq_true.mpr fun c hc => ?_
  have h := List.all_eq_true.mp h1 c hc
  rcases Bool.eq_false_or_eq_true (isCode c) with hi | hi
  · exact h2 c (List.mem_filter.mpr ⟨hc, hi⟩)
  · simpa [hi] using h
set_option maxRecDepth 65536 in
theorem w_c0 : (Jvm.Cond.code x code maxLocals ret).before args0 about1 = true := code_word (m := ⟨1, 3⟩) (meth := k1m3) (c := k1c3) (by decide +kernel) rfl rfl rfl (by decide +kernel)
set_option maxRecDepth 65536 in
theorem w_c1 : (Jvm.Cond.code ({ cls := "com/example/libcoef/libcoef/JpegMarkerMayFollowScanPinLaw", name := "ok", desc := "(I)Z" } : Jvm.MethodName) method_3_code (1 : Nat) (Option.some Jvm.ClassFile.FieldType.boolean)).before args0 about1 = true := code_word (m := ⟨1, 2⟩) (meth := k1m2) (c := k1c2) (by decide +kernel) rfl rfl rfl (by decide +kernel)
set_option maxRecDepth 65536 in
theorem w_c2 : (Jvm.Cond.code ({ cls := "com/example/libcoef/libcoef/JpegMarker", name := "mayFollowScan", desc := "(I)Z" } : Jvm.MethodName) prog_42_method_4_code (1 : Nat) (Option.some Jvm.ClassFile.FieldType.boolean)).before args0 about1 = true := code_word (m := ⟨2, 1⟩) (meth := k2m1) (c := k2c1) (by decide +kernel) rfl rfl rfl (by decide +kernel)
set_option maxRecDepth 65536 in
theorem w_c3 : (Jvm.Cond.code ({ cls := "com/example/libcoef/libcoef/JpegMarkerMayFollowScanPinLaw", name := "expected", desc := "(I)Z" } : Jvm.MethodName) method_2_code (1 : Nat) (Option.some Jvm.ClassFile.FieldType.boolean)).before args0 about1 = true := code_word (m := ⟨1, 1⟩) (meth := k1m1) (c := k1c1) (by decide +kernel) rfl rfl rfl (by decide +kernel)
def codes1 : List Jvm.Cond := [Jvm.Cond.code x code maxLocals ret, Jvm.Cond.code ({ cls := "com/example/libcoef/libcoef/JpegMarkerMayFollowScanPinLaw", name := "ok", desc := "(I)Z" } : Jvm.MethodName) method_3_code (1 : Nat) (Option.some Jvm.ClassFile.FieldType.boolean), Jvm.Cond.code ({ cls := "com/example/libcoef/libcoef/JpegMarker", name := "mayFollowScan", desc := "(I)Z" } : Jvm.MethodName) prog_42_method_4_code (1 : Nat) (Option.some Jvm.ClassFile.FieldType.boolean), Jvm.Cond.code ({ cls := "com/example/libcoef/libcoef/JpegMarkerMayFollowScanPinLaw", name := "expected", desc := "(I)Z" } : Jvm.MethodName) method_2_code (1 : Nat) (Option.some Jvm.ClassFile.FieldType.boolean)]
set_option maxRecDepth 65536 in
theorem codes_eq : words1.filter isCode = codes1 := rfl
theorem w_codes : ∀ c ∈ words1.filter isCode, c.before args0 about1 = true := by
  rw [codes_eq]
  intro c hc
  simp only [codes1, List.mem_cons, List.not_mem_nil, or_false] at hc
  rcases hc with rfl | rfl | rfl | rfl
  · exact w_c0
  · exact w_c1
  · exact w_c2
  · exact w_c3
set_option maxRecDepth 65536 in
theorem w_t1 : words1.all (fun c => isCode c || c.before args0 about1) = true := by decide +kernel
theorem w_tables : (allAtoms (Jvm.Cond.code x code maxLocals ret :: tables_1)).before args0 about1 = true := by
  rw [allAtoms_all]
  show words1.all (fun c => c.before args0 about1) = true
  refine all_split ?_ w_codes
  rw [w_t1]
set_option maxRecDepth 65536 in
theorem w_case : (Jvm.Cond.and given_1 narrow_1).before args0 about1 = true := by decide +kernel
theorem w_applies : (headSpec (Jvm.Cond.code x code maxLocals ret :: tables_1) room_1).applies x e0.platform about1 = true :=
  (Spec.applies_iff w_frames).mpr ⟨w_running, w_runnable, w_alone, w_named, w_hears, w_ripe, w_room, w_tables⟩
theorem atStart : AtStart classFile x code maxLocals ret World_1 tables_1 room_1 Calls_1 rest_1 Pre_1 launch0 p0 e0 about1 theMethod args0 below0 :=
  ⟨lists_1, trivial, launch0.admits_env _ _ _, launch0.least_env, fairChoices_fair.cas, fairChoices_fair.clock, w_frames, w_args, w_heap, w_applies, trivial, trivial, w_case⟩
end start1
theorem witness_1 : WitnessClaimed_1 := ⟨start1.p0, start1.e0, start1.about1, start1.theMethod, start1.args0, start1.below0, start1.atStart⟩
end Jvm.Pilot.@@N@@
