import JvmDerived
import JvmDerived.Pilot.@@N@@Statement
import JvmDerived.Pilot.@@N@@Code
set_option linter.unusedVariables false
set_option linter.unusedSimpArgs false
namespace Jvm.Pilot.@@N@@
open Jvm Jvm.ClassFile Sem Op Lib Jvm.Free Jvm.Stand Jvm.LawKit Jvm.RoadKit Bundle Jvm.Pilot.@@N@@.Jvm.D
theorem own_w {Z : State} {a0 : Array Value} (hw : ∀ d ∈ tables_1, d.before a0 Z = true) (k : Nat) {d : Jvm.Cond} (h : tables_1[k]? = some d) : d.before a0 Z = true := hw _ (List.mem_of_getElem? h)
/-- the run from U ends, and Q says what it leaves -/
def own_Fin (p : Program) (e : Env) (below : List Frame) (s : State) (Q : Option Value → Heap → List Loc → Prop) (k n : Nat) (U : State) : Prop :=
  ∃ s₂ o, Steps p.tables e below U s₂ ∧ s₂.status = .running ∧ Ended s₂ below o ∧ ∃ v L, o = .returned v ∧ Q v s₂.heap L ∧ FrameEnd s o s₂ L k n
theorem own_Fin.step {p : Program} {e : Env} {below : List Frame} {s : State} {Q : Option Value → Heap → List Loc → Prop} {k n : Nat} {U U' : State} (st : ∀ t, Steps p.tables e below U' t → Steps p.tables e below U t) (h : own_Fin p e below s Q k n U') : own_Fin p e below s Q k n U := by
  obtain ⟨s₂, o, h1, h2⟩ := h
  exact ⟨s₂, o, st _ h1, h2⟩
/-- a contract: called with as' at the heap h, the body leaves what Q says -/
abbrev own_Met (l : Launch) (Z : State) (ws : List Jvm.Cond) (y : MethodName) (bytes : ByteArray) (maxL : Nat) (ret : Option FieldType) (rm : Room) (as' : Array Value) (h : Heap) (Q : Option Value → Heap → List Loc → Prop) : Prop :=
  MetFree l y (head1 (Jvm.Cond.code y bytes maxL ret :: ws) rm) (fun a U => a = as' ∧ Z.Warmed39 U.vm ∧ U.heap = h) (fun _ _ _ _ _ => True) (fun _ U o U' => ∃ v L, o = .returned v ∧ Q v U'.heap L ∧ FrameEnd U o U' L rm.cells rm.slots)
/-- what a body leaves that returns w and writes nothing -/
def own_QP (w : Option Value) (h0 : Heap) (n0 : Nat) (v : Option Value) (h : Heap) (L : List Loc) : Prop := v = w ∧ Fr n0 L ∧ h = h0
/-- the law's own end -/
def own_Q0 (n0 : Nat) (v : Option Value) (h : Heap) (L : List Loc) : Prop := v = some (.int 1) ∧ Fr n0 L
theorem own_enter {l : Launch} {Z : State} {ws : List Jvm.Cond} {y : MethodName} {bytes : ByteArray} {maxL : Nat} {ret : Option FieldType} {rm : Room} {as' : Array Value} {h : Heap} {Q : Option Value → Heap → List Loc → Prop} (hp : plainFor y = true)
    (body : ∀ (p : Program) (e : Env) (s : State) (m : MethodId) (below : List Frame) (meth : Method) (c : Code) (s₁ : State), Stand p l e rm s m as' below meth c s₁ [] 0 0 → p.tables.exec = Jvm.exec → c.code = bytes → c.maxLocals = maxL → s.vm.findClass y.cls = some m.cls → meth.sig.returnType = ret → meth.locks = false → meth.name = y.name → Z.Warmed39 s.vm → s₁.heap = h →
      own_Fin p e below s Q rm.cells rm.slots (s₁.setTop (entryFrame m as' maxL))) : own_Met l Z ws y bytes maxL ret rm as' h Q := by
  refine MetFree.of_bodySF hp hisR ?_
  intro p e s m args below meth c s₁ Bd hml0 hP hK
  obtain ⟨rfl, hZ, hh⟩ := hP
  exact body p e s m below meth c s₁ (Stand.of_body Bd) Bd.exec Bd.bytes hml0 (findClass_of_methodNamed Bd.named) Bd.returns (BodyLoose.notSynchronized Bd) (name_of_methodNamed Bd.named Bd.method).1 hZ (by rw [← hh, Bd.state]; rfl)
section Own
variable {p : Program} {l : Launch} {e : Env} {R : Room} {s : State} {m : MethodId} {args : Array Value} {below : List Frame} {meth : Method} {c : Code} {T : State} {locs : List Loc} {cells slots : Nat} {Z : State} {a0 : Array Value} {h : Heap} {Q : Option Value → Heap → List Loc → Prop} {k n : Nat}
theorem own_retI (X : Stand p l e R s m args below meth c T locs cells slots) (hx : p.tables.exec = Jvm.exec) (hlk : meth.locks = false) {pc : Nat} {Ls : Array Slot} {z : Int32} {rest : List Value} (hret : meth.sig.returnType = some .int) (hd : decode c.code pc = .ok (.ireturn, 1)) (hQ : Q (some (.int z)) T.heap locs) (hk : cells ≤ k) (hn : slots ≤ n) :
    own_Fin p e below s Q k n (T.setTop (mkF m pc Ls (.int z :: rest))) := by
  obtain ⟨fs, hr, hrun, hended, hW, hsame⟩ := X.leave (v := some (.int z)) (fun h => by rw [hret] at h; cases h) hlk
  refine ⟨_, _, ?_, hrun, hended, _, _, rfl, hQ, ⟨_, rfl⟩, hW, hsame.mono hk hn⟩
  have hm' : T.vm.method? m = some meth := X.method'
  have hnn : narrow .int (.int z) = .int z := rfl
  show Steps p.tables e below (T.setTop { method := m, pc := pc, locals := Ls, stack := _ :: rest, locked := none }) _
  jvm_step X.here [X.here.top, hx, hd, hm', hret, hnn]
  first | (intro acts; rw [hr _ acts rfl rfl rfl]) | rw [hr _ _ rfl rfl rfl]
  exact Steps.refl _
theorem own_retN (X : Stand p l e R s m args below meth c T locs cells slots) (hx : p.tables.exec = Jvm.exec) (hlk : meth.locks = false) {pc : Nat} {Ls : Array Slot} {z : Int32} {t : FieldType} {rest : List Value} (hret : meth.sig.returnType = some t) (ht : t = .boolean ∨ t = .byte ∨ t = .char ∨ t = .short) (hd : decode c.code pc = .ok (.ireturn, 1)) (hQ : Q (some (.int (nar t z))) T.heap locs) (hk : cells ≤ k) (hn : slots ≤ n) :
    own_Fin p e below s Q k n (T.setTop (mkF m pc Ls (.int z :: rest))) := by
  obtain ⟨fs, hr, hrun, hended, hW, hsame⟩ := X.leave (v := some (.int (nar t z))) (fun h => by rw [hret] at h; cases h) hlk
  exact ⟨_, _, retN X hx hret ht hd hr, hrun, hended, _, _, rfl, hQ, ⟨_, rfl⟩, hW, hsame.mono hk hn⟩
theorem own_retJ (X : Stand p l e R s m args below meth c T locs cells slots) (hx : p.tables.exec = Jvm.exec) (hlk : meth.locks = false) {pc : Nat} {Ls : Array Slot} {z : Int64} (hret : meth.sig.returnType = some .long) (hd : decode c.code pc = .ok (.lreturn, 1)) (hQ : Q (some (.long z)) T.heap locs) (hk : cells ≤ k) (hn : slots ≤ n) :
    own_Fin p e below s Q k n (T.setTop (mkF m pc Ls [.long z])) := by
  obtain ⟨fs, hr, hrun, hended, hW, hsame⟩ := X.leave (v := some (.long z)) (fun h => by rw [hret] at h; cases h) hlk
  exact ⟨_, _, X.lreturnOut hx hret hd hr, hrun, hended, _, _, rfl, hQ, ⟨_, rfl⟩, hW, hsame.mono hk hn⟩
theorem own_retR (X : Stand p l e R s m args below meth c T locs cells slots) (hx : p.tables.exec = Jvm.exec) (hlk : meth.locks = false) {pc : Nat} {Ls : Array Slot} {w : Value} {t : FieldType} (hw : w.isRef = true) (hret : meth.sig.returnType = some t) (ht : t.isReference = true) (hd : decode c.code pc = .ok (.areturn, 1)) (hQ : Q (some w) T.heap locs) (hk : cells ≤ k) (hn : slots ≤ n) :
    own_Fin p e below s Q k n (T.setTop (mkF m pc Ls [w])) := by
  obtain ⟨fs, hr, hrun, hended, hW, hsame⟩ := X.leave (v := some w) (fun h => by rw [hret] at h; cases h) hlk
  exact ⟨_, _, X.areturnOut hx hw hret ht hd hr, hrun, hended, _, _, rfl, hQ, ⟨_, rfl⟩, hW, hsame.mono hk hn⟩
theorem own_ret0 (X : Stand p l e R s m args below meth c T locs cells slots) (hx : p.tables.exec = Jvm.exec) (hlk : meth.locks = false) {pc : Nat} {Ls : Array Slot} (hret : meth.sig.returnType = none) (hd : decode c.code pc = .ok (.return_, 1)) (hQ : Q none T.heap locs) (hk : cells ≤ k) (hn : slots ≤ n) :
    own_Fin p e below s Q k n (T.setTop (mkF m pc Ls [])) := by
  obtain ⟨fs, hr, hrun, hended, hW, hsame⟩ := X.leave (v := none) (fun _ => rfl) hlk
  exact ⟨_, _, X.returnOut hx hret hd hr, hrun, hended, _, _, rfl, hQ, ⟨_, rfl⟩, hW, hsame.mono hk hn⟩
theorem own_lrem {tb : Tables} [Ours tb] {target : State} {g : JFrame} (h : At T m c below) (hx : tb.exec = Jvm.exec) (hg : g.method = m) {x y : Int64} {rest : List Value} (hd : decode c.code g.pc = .ok (.lrem, 1)) (hs : g.stack = .long y :: .long x :: rest) (hy : y ≠ 0)
    (hr : Steps tb e below (T.setTop { g with pc := g.pc + 1, stack := .long (x % y) :: rest }) target) : Steps tb e below (T.setTop g) target := by
  have q : x - x / y * y = x % y := lrem_mod x y
  exact XS.lrem h hx hg hd hs hy (by rw [q]; exact hr)
theorem own_callS (X : Stand p l e R s m args below meth c T locs cells slots) (hx : p.tables.exec = Jvm.exec) (hZ : Z.Warmed39 s.vm) {own : String} {index : Nat} {y : MethodName} {bytes : ByteArray} {maxL : Nat} {ret : Option FieldType} {rm : Room} {as' : Array Value}
    (hown : s.vm.findClass own = some m.cls) (w1 : (Jvm.Cond.methodLink own index y).before a0 Z = true) (w2 : (Jvm.Cond.static y).before a0 Z = true) (w3 : (Jvm.Cond.initialized y.cls).before a0 Z = true) (w4 : (Jvm.Cond.code y bytes maxL ret).before a0 Z = true)
    (hy : y.cls ≠ "java/lang/invoke/MethodHandle" ∧ y.cls ≠ "java/lang/invoke/VarHandle") (hM : own_Met l Z [] y bytes maxL ret rm as' h Q) {W : Nat} (hf : rm.frames + 1 ≤ R.frames) (hl : W + (maxL + 11) + rm.locals ≤ R.locals) (eT : T.heap = h)
    {g : JFrame} (hg : g.method = m) (hsize : g.locals.size = c.maxLocals) {argsL rest : List Value} (hlen : ∀ sig, parseMethodDescriptor y.desc = some sig → argsL.length = sig.parameters.length) (has : argsL.toArray = as') (hstack : g.stack = argsL.reverse ++ rest) (hW : 2 * g.monitorRoom + (rest.map fun v => v.category).sum ≤ W)
    (hdg : decode c.code g.pc = .ok (.invokestatic index, 3)) (hc : cells + rm.cells ≤ R.cells) (hs : slots + rm.slots ≤ R.slots) :
    ∃ v T' L, Stand p l e R s m args below meth c T' (locs ++ L) (cells + rm.cells) (slots + rm.slots) ∧ Q v T'.heap L ∧ ∀ t, Steps p.tables e below (T'.setTop { g with pc := g.pc + 3, stack := v.toList ++ rest }) t → Steps p.tables e below (T.setTop g) t := by
  obtain ⟨v, vm1, ⟨T', L', k', n'⟩, -, X', ⟨Lc, hQ, l1, y1, z1⟩, st⟩ := Jvm.LawKit.callS X hx (y := y) hown (mvT hZ w1) (mvT hZ w2) (mvT hZ w3) (mvT hZ w4) hy (backOf (W := W) hM hZ w4 w3 hf hl) (g := g) hg hsize (argsL := argsL) (rest := rest) hlen hstack hW hdg (fun _ _ => ⟨has, eT, hc, hs⟩)
  dsimp only [Pt.U, Pt.locs, Pt.cells, Pt.slots] at X' l1 y1 z1 st hQ
  subst l1 y1 z1
  exact ⟨v, T', Lc, X', hQ, st⟩
theorem own_callN (X : Stand p l e R s m args below meth c T locs cells slots) (hx : p.tables.exec = Jvm.exec) (hZ : Z.Warmed39 s.vm) {own : String} {index : Nat} {y : MethodName} {bytes : ByteArray} {maxL : Nat} {rm : Room} {as' : Array Value} (hy1 : y.name = "<init>")
    (hown : s.vm.findClass own = some m.cls) (w1 : (Jvm.Cond.methodLink own index y).before a0 Z = true) (w2 : (Jvm.Cond.instanceMethod y).before a0 Z = true) (w3 : (Jvm.Cond.initialized y.cls).before a0 Z = true) (w4 : (Jvm.Cond.code y bytes maxL none).before a0 Z = true)
    (hy : y.cls ≠ "java/lang/invoke/MethodHandle" ∧ y.cls ≠ "java/lang/invoke/VarHandle") (hM : own_Met l Z [] y bytes maxL none rm as' h Q) {W : Nat} (hf : rm.frames + 1 ≤ R.frames) (hl : W + (maxL + 11) + rm.locals ≤ R.locals) {a : Addr} (eT : T.heap = h)
    {g : JFrame} (hg : g.method = m) (hsize : g.locals.size = c.maxLocals) {argsL rest : List Value} (hlen : ∀ sig, parseMethodDescriptor y.desc = some sig → argsL.length = sig.parameters.length) (has : (.ref a :: argsL).toArray = as') (hstack : g.stack = argsL.reverse ++ .ref a :: rest) (hW : 2 * g.monitorRoom + (rest.map fun v => v.category).sum ≤ W)
    (hdg : decode c.code g.pc = .ok (.invokespecial index, 3)) (hc : cells + rm.cells ≤ R.cells) (hs : slots + rm.slots ≤ R.slots) :
    ∃ v T' L, Stand p l e R s m args below meth c T' (locs ++ L) (cells + rm.cells) (slots + rm.slots) ∧ Q v T'.heap L ∧ ∀ t, Steps p.tables e below (T'.setTop { g with pc := g.pc + 3, stack := v.toList ++ rest }) t → Steps p.tables e below (T.setTop g) t := by
  obtain ⟨v, vm1, ⟨T', L', k', n'⟩, -, X', ⟨Lc, hQ, l1, y1, z1⟩, st⟩ := X.specialBack hx (y := y) hy1 hown (mvT hZ w1) (mvT hZ w2) (mvT hZ w4) hy (backOf (W := W) hM hZ w4 w3 hf hl) (g := g) hg hsize (Steps.refl _) (a := a) (argsL := argsL) (rest := rest) hlen hstack hW hdg (fun _ _ => ⟨has, eT, hc, hs⟩)
  dsimp only [Pt.U, Pt.locs, Pt.cells, Pt.slots] at X' l1 y1 z1 st hQ
  subst l1 y1 z1
  exact ⟨v, T', Lc, X', hQ, fun t k => st.trans k⟩
theorem own_callV (X : Stand p l e R s m args below meth c T locs cells slots) (hx : p.tables.exec = Jvm.exec) (hZ : Z.Warmed39 s.vm) {own C : String} {index : Nat} {y : MethodName} {bytes : ByteArray} {maxL : Nat} {ret : Option FieldType} {rm : Room} {as' : Array Value}
    (hown : s.vm.findClass own = some m.cls) (w1 : (Jvm.Cond.methodLink own index y).before a0 Z = true) (w2 : (Jvm.Cond.declares y).before a0 Z = true) (w5 : (Jvm.Cond.selects C y y).before a0 Z = true) (w6 : (Jvm.Cond.instanceMethod y).before a0 Z = true) (w3 : (Jvm.Cond.initialized y.cls).before a0 Z = true) (w4 : (Jvm.Cond.code y bytes maxL ret).before a0 Z = true)
    (hy : y.cls ≠ "java/lang/invoke/MethodHandle" ∧ y.cls ≠ "java/lang/invoke/VarHandle") (hM : own_Met l Z [] y bytes maxL ret rm as' h Q) {W : Nat} (hf : rm.frames + 1 ≤ R.frames) (hl : W + (maxL + 11) + rm.locals ≤ R.locals) {a : Addr} (E : Exa Z h a C) (eT : T.heap = h)
    {g : JFrame} (hg : g.method = m) (hsize : g.locals.size = c.maxLocals) {argsL rest : List Value} (hlen : ∀ sig, parseMethodDescriptor y.desc = some sig → argsL.length = sig.parameters.length) (has : (.ref a :: argsL).toArray = as') (hstack : g.stack = argsL.reverse ++ .ref a :: rest) (hW : 2 * g.monitorRoom + (rest.map fun v => v.category).sum ≤ W)
    (hdg : decode c.code g.pc = .ok (.invokevirtual index, 3)) (hc : cells + rm.cells ≤ R.cells) (hs : slots + rm.slots ≤ R.slots) :
    ∃ v T' L, Stand p l e R s m args below meth c T' (locs ++ L) (cells + rm.cells) (slots + rm.slots) ∧ Q v T'.heap L ∧ ∀ t, Steps p.tables e below (T'.setTop { g with pc := g.pc + 3, stack := v.toList ++ rest }) t → Steps p.tables e below (T.setTop g) t := by
  obtain ⟨cq, kq, qa, qb, qc⟩ := isOf hZ eT E
  obtain ⟨v, vm1, ⟨T', L', k', n'⟩, -, X', ⟨Lc, hQ, l1, y1, z1⟩, st⟩ := X.virtualBack hx (y := y) (z := y) hown (mvT hZ w1) (mvT hZ w2) (notFace_of_selects (args := #[]) (mvT hZ w5)) (mvT hZ w5) (mvT hZ w6) hy (backOf (W := W) hM hZ w4 w3 hf hl) qa qc (g := g) hg hsize (Steps.refl _) (argsL := argsL) (rest := rest) hlen hstack hW hdg (fun _ _ => ⟨has, eT, hc, hs⟩)
  dsimp only [Pt.U, Pt.locs, Pt.cells, Pt.slots] at X' l1 y1 z1 st hQ
  subst l1 y1 z1
  exact ⟨v, T', Lc, X', hQ, fun t k => st.trans k⟩
theorem own_newA (X : Stand p l e R s m args below meth c T locs cells slots) (hx : p.tables.exec = Jvm.exec) (hZ : Z.Warmed39 s.vm) {aty : ArrayType} (w : (Jvm.Cond.arrayClass (newarray.typeOf aty)).before a0 Z = true) (eT : T.heap = h) {ty : FieldType} {dv : Value} (hty : newarray.typeOf aty = ty) (hdv : defaultValue ty = dv)
    {g : JFrame} (hg : g.method = m) (hd : decode c.code g.pc = .ok (.newarray aty, 2)) {n : Int32} {rest : List Value} (hs : g.stack = .int n :: rest) (hn : ¬ n < 0) {cap : Nat} (hcap : n.toNatClampNeg ≤ cap) (hb : cap * 8 ≤ 536870912) (hc : cells + 1 ≤ R.cells) (hl : slots + cap ≤ R.slots) (N : Nat) :
    ∃ T' h' k a, Stand p l e R s m args below meth c T' locs (cells + 1) (slots + cap) ∧ T'.heap = h' ∧ Ext h h' ∧ a = h.size ∧ Arv Z h' a k ty n (List.replicate N dv) dv ∧
      ∀ t, Steps p.tables e below (T'.setTop { g with pc := g.pc + 2, stack := .ref a :: rest }) t → Steps p.tables e below (T.setTop g) t := by
  subst hty hdv
  obtain ⟨T', h', k, X', e', E, A, st⟩ := newP X hx hZ w eT hg hd hs hn hcap hb hc hl
  exact ⟨T', h', k, _, X', e', E, rfl, by simpa using (Arv.new A hn).pad (pad_rep [] _ N), st⟩
theorem own_stI (X : Stand p l e R s m args below meth c T locs cells slots) (hx : p.tables.exec = Jvm.exec) (hZ : Z.Warmed39 s.vm) (eT : T.heap = h) {a : Addr} {k : ClassId} {n : Int32} {vs : List Value} {dv : Value} (F : Arv Z h a k .int n vs dv) {j x : Int32} (hj : ¬ j < 0 ∧ j < n) (i : Nat) (hi : j.toNatClampNeg = i) (hl : i < vs.length)
    {g : JFrame} (hg : g.method = m) {rest : List Value} (hs : g.stack = .int x :: .int j :: .ref a :: rest) (hd : decode c.code g.pc = .ok (.iastore, 1)) :
    ∃ T' h', Stand p l e R s m args below meth c T' (locs ++ [⟨a, j.toNatClampNeg⟩]) cells slots ∧ T'.heap = h' ∧ Arv Z h' a k .int n (vs.set i (.int x)) dv ∧ Wr h h' a j.toNatClampNeg (.int x) ∧ ∀ t, Steps p.tables e below (T'.setTop { g with pc := g.pc + 1, stack := rest }) t → Steps p.tables e below (T.setTop g) t := by
  obtain ⟨cl, A, q1, q2, q3, H, G⟩ := F
  obtain ⟨T', h', X', e', W, st⟩ := stI X hx hZ eT A (j := j) (inb_of q2 hj) hg hs hd
  exact ⟨T', h', X', e', Arv.set A q1 q2 q3 H G rfl W i hi hl, W, st⟩
theorem own_stJ (X : Stand p l e R s m args below meth c T locs cells slots) (hx : p.tables.exec = Jvm.exec) (hZ : Z.Warmed39 s.vm) (eT : T.heap = h) {a : Addr} {k : ClassId} {n : Int32} {vs : List Value} {dv : Value} (F : Arv Z h a k .long n vs dv) {j : Int32} {x : Int64} (hj : ¬ j < 0 ∧ j < n) (i : Nat) (hi : j.toNatClampNeg = i) (hl : i < vs.length)
    {g : JFrame} (hg : g.method = m) {rest : List Value} (hs : g.stack = .long x :: .int j :: .ref a :: rest) (hd : decode c.code g.pc = .ok (.lastore, 1)) :
    ∃ T' h', Stand p l e R s m args below meth c T' (locs ++ [⟨a, j.toNatClampNeg⟩]) cells slots ∧ T'.heap = h' ∧ Arv Z h' a k .long n (vs.set i (.long x)) dv ∧ Wr h h' a j.toNatClampNeg (.long x) ∧ ∀ t, Steps p.tables e below (T'.setTop { g with pc := g.pc + 1, stack := rest }) t → Steps p.tables e below (T.setTop g) t := by
  obtain ⟨cl, A, q1, q2, q3, H, G⟩ := F
  obtain ⟨T', h', X', e', W, st⟩ := stJ X hx hZ eT A (j := j) (inb_of q2 hj) hg hs hd
  exact ⟨T', h', X', e', Arv.set A q1 q2 q3 H G rfl W i hi hl, W, st⟩
theorem own_stB (X : Stand p l e R s m args below meth c T locs cells slots) (hx : p.tables.exec = Jvm.exec) (hZ : Z.Warmed39 s.vm) (eT : T.heap = h) {a : Addr} {k : ClassId} {n : Int32} {vs : List Value} {dv : Value} (F : Arv Z h a k .byte n vs dv) {j x : Int32} (hj : ¬ j < 0 ∧ j < n) (i : Nat) (hi : j.toNatClampNeg = i) (hl : i < vs.length)
    {g : JFrame} (hg : g.method = m) {rest : List Value} (hs : g.stack = .int x :: .int j :: .ref a :: rest) (hd : decode c.code g.pc = .ok (.bastore, 1)) :
    ∃ T' h', Stand p l e R s m args below meth c T' (locs ++ [⟨a, j.toNatClampNeg⟩]) cells slots ∧ T'.heap = h' ∧ Arv Z h' a k .byte n (vs.set i (.int (nar .byte x))) dv ∧ Wr h h' a j.toNatClampNeg (.int (nar .byte x)) ∧ ∀ t, Steps p.tables e below (T'.setTop { g with pc := g.pc + 1, stack := rest }) t → Steps p.tables e below (T.setTop g) t := by
  obtain ⟨cl, A, q1, q2, q3, H, G⟩ := F
  obtain ⟨T', h', X', e', W, st⟩ := stB X hx hZ eT A (j := j) (inb_of q2 hj) hg hs hd
  exact ⟨T', h', X', e', Arv.set A q1 q2 q3 H G (fits_nar_byte x) W i hi hl, W, st⟩
theorem own_nar (y : Int32) : nar .byte y.toInt8.toInt32 = y.toInt8.toInt32 := by
  show y.toInt8.toInt32.toInt8.toInt32 = _
  simp
theorem own_stBn (X : Stand p l e R s m args below meth c T locs cells slots) (hx : p.tables.exec = Jvm.exec) (hZ : Z.Warmed39 s.vm) (eT : T.heap = h) {a : Addr} {k : ClassId} {n : Int32} {vs : List Value} {dv : Value} (F : Arv Z h a k .byte n vs dv) {j x : Int32} (hj : ¬ j < 0 ∧ j < n) (i : Nat) (hi : j.toNatClampNeg = i) (hl : i < vs.length)
    {g : JFrame} (hg : g.method = m) {rest : List Value} (hs : g.stack = .int x.toInt8.toInt32 :: .int j :: .ref a :: rest) (hd : decode c.code g.pc = .ok (.bastore, 1)) :
    ∃ T' h', Stand p l e R s m args below meth c T' (locs ++ [⟨a, j.toNatClampNeg⟩]) cells slots ∧ T'.heap = h' ∧ Arv Z h' a k .byte n (vs.set i (.int x.toInt8.toInt32)) dv ∧ Wr h h' a j.toNatClampNeg (.int x.toInt8.toInt32) ∧ ∀ t, Steps p.tables e below (T'.setTop { g with pc := g.pc + 1, stack := rest }) t → Steps p.tables e below (T.setTop g) t := by
  have h := own_stB X hx hZ eT F hj i hi hl hg hs hd
  rw [own_nar] at h
  exact h
theorem own_ldI (X : Stand p l e R s m args below meth c T locs cells slots) (hx : p.tables.exec = Jvm.exec) (hZ : Z.Warmed39 s.vm) (eT : T.heap = h) {a : Addr} {k : ClassId} {n : Int32} {vs : List Value} {dv v : Value} (F : Arv Z h a k .int n vs dv) {j : Int32} (hj : ¬ j < 0 ∧ j < n) (hv : vs.getD j.toNatClampNeg dv = v)
    {g : JFrame} (hg : g.method = m) {rest : List Value} (hs : g.stack = .int j :: .ref a :: rest) (hd : decode c.code g.pc = .ok (.iaload, 1)) :
    ∀ t, Steps p.tables e below (T.setTop { g with pc := g.pc + 1, stack := v :: rest }) t → Steps p.tables e below (T.setTop g) t := by
  obtain ⟨cl, A, q1, q2, q3, H, G⟩ := F
  have hin := inb_of q2 hj
  exact fun t kt => X.iaload hx (j := j) (v := v) (by rw [eT]; exact A.1) (State.isArrayOf_alike hZ.alike A.2.1) A.2.2 hin (H.at hin hv) hg hs hd _ kt
theorem own_ldJ (X : Stand p l e R s m args below meth c T locs cells slots) (hx : p.tables.exec = Jvm.exec) (hZ : Z.Warmed39 s.vm) (eT : T.heap = h) {a : Addr} {k : ClassId} {n : Int32} {vs : List Value} {dv v : Value} (F : Arv Z h a k .long n vs dv) {j : Int32} (hj : ¬ j < 0 ∧ j < n) (hv : vs.getD j.toNatClampNeg dv = v)
    {g : JFrame} (hg : g.method = m) {rest : List Value} (hs : g.stack = .int j :: .ref a :: rest) (hd : decode c.code g.pc = .ok (.laload, 1)) :
    ∀ t, Steps p.tables e below (T.setTop { g with pc := g.pc + 1, stack := v :: rest }) t → Steps p.tables e below (T.setTop g) t := by
  obtain ⟨cl, A, q1, q2, q3, H, G⟩ := F
  have hin := inb_of q2 hj
  exact fun t kt => X.laload hx (j := j) (v := v) (by rw [eT]; exact A.1) (State.isArrayOf_alike hZ.alike A.2.1) A.2.2 hin (H.at hin hv) hg hs hd _ kt
theorem own_ldB (X : Stand p l e R s m args below meth c T locs cells slots) (hx : p.tables.exec = Jvm.exec) (hZ : Z.Warmed39 s.vm) (eT : T.heap = h) {a : Addr} {k : ClassId} {n : Int32} {vs : List Value} {dv v : Value} (F : Arv Z h a k .byte n vs dv) {j : Int32} (hj : ¬ j < 0 ∧ j < n) (hv : vs.getD j.toNatClampNeg dv = v)
    {g : JFrame} (hg : g.method = m) {rest : List Value} (hs : g.stack = .int j :: .ref a :: rest) (hd : decode c.code g.pc = .ok (.baload, 1)) :
    ∀ t, Steps p.tables e below (T.setTop { g with pc := g.pc + 1, stack := v :: rest }) t → Steps p.tables e below (T.setTop g) t := by
  obtain ⟨cl, A, q1, q2, q3, H, G⟩ := F
  have hin := inb_of q2 hj
  exact fun t kt => X.baloadBytes hx (j := j) (v := v) (by rw [eT]; exact A.1) (State.isArrayOf_alike hZ.alike A.2.1) A.2.2 hin (H.at hin hv) hg hs hd _ kt
theorem own_len (X : Stand p l e R s m args below meth c T locs cells slots) (hx : p.tables.exec = Jvm.exec) (hZ : Z.Warmed39 s.vm) (eT : T.heap = h) {a : Addr} {k : ClassId} {ty : FieldType} {n : Int32} {vs : List Value} {dv : Value} (F : Arv Z h a k ty n vs dv)
    {g : JFrame} (hg : g.method = m) {rest : List Value} (hs : g.stack = .ref a :: rest) (hd : decode c.code g.pc = .ok (.arraylength, 1)) :
    ∀ t, Steps p.tables e below (T.setTop { g with pc := g.pc + 1, stack := .int n :: rest }) t → Steps p.tables e below (T.setTop g) t := by
  obtain ⟨cl, A, q1, q2, q3, H, G⟩ := F
  exact fun t kt => X.arraylength hx (by rw [eT]; exact A.1) (State.isArrayOf_alike hZ.alike A.2.1) hg hs hd _ (by rw [len_of q2 q3]; exact kt)
end Own
def own_bf (q : Int64) : Int64 := (((q + (7 : Int64)).toUInt64 >>> ((3 : Int32) &&& 0x3f).toInt64.toUInt64).toInt64)
theorem own_m7 (r : Int32) : ∃ j : Fin 8, r &&& 7 = Int32.ofNat j.val := by
  have h := c_mask r 7 3 (by omega) (by decide)
  have h8 : ((2 ^ 3 : Nat) : Int) = 8 := by decide
  rw [h8] at h
  refine ⟨⟨(r &&& 7).toInt.toNat, by omega⟩, ?_⟩
  apply Int32.toInt_inj.mp
  rw [Int32.toInt_ofNat_of_lt (by show (r &&& 7).toInt.toNat < _; omega)]; show _ = ((r &&& 7).toInt.toNat : Int); omega
theorem own_m3 (r : Int32) : r &&& 3 = 0 ∨ r &&& 3 = 1 ∨ r &&& 3 = 2 ∨ r &&& 3 = 3 := by
  have h := c_mask r 3 2 (by omega) (by decide)
  have h8 : ((2 ^ 2 : Nat) : Int) = 4 := by decide
  rw [h8] at h
  have q : ∀ k : Int32, (r &&& 3).toInt = k.toInt → r &&& 3 = k := fun k => Int32.toInt_inj.mp
  have q0 : (0 : Int32).toInt = 0 := by decide
  have q1 : (1 : Int32).toInt = 1 := by decide
  have q2 : (2 : Int32).toInt = 2 := by decide
  have q3 : (3 : Int32).toInt = 3 := by decide
  rcases (by omega : (r &&& 3).toInt = 0 ∨ (r &&& 3).toInt = 1 ∨ (r &&& 3).toInt = 2 ∨ (r &&& 3).toInt = 3) with h | h | h | h
  · exact Or.inl (q 0 (by rw [h, q0]))
  · exact Or.inr (Or.inl (q 1 (by rw [h, q1])))
  · exact Or.inr (Or.inr (Or.inl (q 2 (by rw [h, q2]))))
  · exact Or.inr (Or.inr (Or.inr (q 3 (by rw [h, q3]))))
theorem own_f1 : ∀ j : Fin 8, ¬ ((8 : Int64) * (1 : Int32).toInt64 - (Int32.ofNat j.val).toInt64) < 0 ∧ own_bf ((8 : Int64) * (1 : Int32).toInt64 - (Int32.ofNat j.val).toInt64) = (1 : Int32).toInt64 := by decide +kernel
theorem own_f2 : ∀ j : Fin 8, ¬ ((8 : Int64) * (2 : Int32).toInt64 - (Int32.ofNat j.val).toInt64) < 0 ∧ own_bf ((8 : Int64) * (2 : Int32).toInt64 - (Int32.ofNat j.val).toInt64) = (2 : Int32).toInt64 := by decide +kernel
theorem own_f3 : ∀ j : Fin 8, ¬ ((8 : Int64) * (3 : Int32).toInt64 - (Int32.ofNat j.val).toInt64) < 0 ∧ own_bf ((8 : Int64) * (3 : Int32).toInt64 - (Int32.ofNat j.val).toInt64) = (3 : Int32).toInt64 := by decide +kernel
theorem own_g1 (r : Int32) : ¬ ((8 : Int64) * (1 : Int32).toInt64 - (r &&& (7 : Int32)).toInt64) < 0 ∧ own_bf ((8 : Int64) * (1 : Int32).toInt64 - (r &&& (7 : Int32)).toInt64) = (1 : Int32).toInt64 := by
  obtain ⟨j, h⟩ := own_m7 r; rw [h]; exact own_f1 j
theorem own_g2 (r : Int32) : ¬ ((8 : Int64) * (2 : Int32).toInt64 - (r &&& (7 : Int32)).toInt64) < 0 ∧ own_bf ((8 : Int64) * (2 : Int32).toInt64 - (r &&& (7 : Int32)).toInt64) = (2 : Int32).toInt64 := by
  obtain ⟨j, h⟩ := own_m7 r; rw [h]; exact own_f2 j
theorem own_g3 (r : Int32) : ¬ ((8 : Int64) * (3 : Int32).toInt64 - (r &&& (7 : Int32)).toInt64) < 0 ∧ own_bf ((8 : Int64) * (3 : Int32).toInt64 - (r &&& (7 : Int32)).toInt64) = (3 : Int32).toInt64 := by
  obtain ⟨j, h⟩ := own_m7 r; rw [h]; exact own_f3 j
theorem own_g0 : ¬ ((0 : Int64) < 0) ∧ own_bf 0 = (0 : Int32).toInt64 := by decide +kernel
theorem d1_0 : decode prog_6_method_7_code 0 = .ok (.lload_n 0, 1) := by decide +kernel
theorem d1_1 : decode prog_6_method_7_code 1 = .ok (.ldc2_w 36, 3) := by decide +kernel
theorem d1_4 : decode prog_6_method_7_code 4 = .ok (.ladd, 1) := by decide +kernel
theorem d1_5 : decode prog_6_method_7_code 5 = .ok (.iconst 3, 1) := by decide +kernel
theorem d1_6 : decode prog_6_method_7_code 6 = .ok (.lushr, 1) := by decide +kernel
theorem d1_7 : decode prog_6_method_7_code 7 = .ok (.lreturn, 1) := by decide +kernel
theorem pn_1 : plainFor (⟨"com/example/runfold/runfold/codecs/BitWriter", "bytesFor", "(J)J"⟩ : MethodName) = true := plainFor_of_name (by first | (simp [plainName, overriddenIn]; done) | decide +kernel)
theorem ef_1 (m : MethodId) (x0 : Int64) : entryFrame m #[(.long x0)] 2 = mkF m 0 #[.val (.long x0), .second] [] := by first | (simp [entryFrame, mkF, argsToLocals, Value.category]; done) | rfl
set_option maxRecDepth 65536 in
set_option maxHeartbeats 40000000 in
theorem rm1 (l : Launch) (Z : State) (a0 : Array Value) (hw : ∀ d ∈ tables_1, d.before a0 Z = true) (q1 : Int64)  (h0 : Heap) (n0 : Nat) (Z0 : n0 ≤ h0.size)  :
    own_Met l Z [] (⟨"com/example/runfold/runfold/codecs/BitWriter", "bytesFor", "(J)J"⟩ : MethodName) prog_6_method_7_code 2 (some .long) ({ frames := 0, cells := 0, slots := 0, locals := 0 } : Room) #[(.long q1)] h0 (own_QP (some (.long (own_bf q1))) h0 n0) := by
  refine own_enter pn_1 ?_
  intro p e s m below meth c s₁ X0 hx hby hml hown hret hlk hnm hZ e0
  have hml : c.maxLocals = 2 := hml
  have N0 := Fr.nil n0
  rw [ef_1 m q1]
  show own_Fin p e below s _ _ _ (s₁.setTop (mkF m 0 #[.val (.long q1), .second] []))
  refine own_Fin.step (fun _ => XS.lloadN X0.here hx rfl (hb hby d1_0) rfl) ?_
  show own_Fin p e below s _ _ _ (s₁.setTop (mkF m 1 #[.val (.long q1), .second] [(.long q1)]))
  refine own_Fin.step (X0.ldc2Long hx hown (mvT hZ (own_w hw 9 rfl)) (g := (mkF m 1 #[.val (.long q1), .second] [(.long q1)])) rfl (hb hby d1_1)) ?_
  show own_Fin p e below s _ _ _ (s₁.setTop (mkF m 4 #[.val (.long q1), .second] [(.long (7 : Int64)), (.long q1)]))
  refine own_Fin.step (fun _ => XS.ladd X0.here hx rfl (hb hby d1_4) rfl) ?_
  show own_Fin p e below s _ _ _ (s₁.setTop (mkF m 5 #[.val (.long q1), .second] [(.long (q1 + (7 : Int64)))]))
  refine own_Fin.step (fun _ => XS.iconst X0.here hx rfl (hb hby d1_5)) ?_
  show own_Fin p e below s _ _ _ (s₁.setTop (mkF m 6 #[.val (.long q1), .second] [(.int (3 : Int32)), (.long (q1 + (7 : Int64)))]))
  refine own_Fin.step (fun _ => XS.lushr X0.here hx rfl (hb hby d1_6) rfl) ?_
  show own_Fin p e below s _ _ _ (s₁.setTop (mkF m 7 #[.val (.long q1), .second] [(.long (((q1 + (7 : Int64)).toUInt64 >>> ((3 : Int32) &&& 0x3f).toInt64.toUInt64).toInt64))]))
  exact own_retJ X0 hx hlk hret (hb hby d1_7) ⟨rfl, N0, e0⟩ (by decide) (by decide)
theorem d2_0 : decode prog_4_method_2_code 0 = .ok (.lload_n 1, 1) := by decide +kernel
theorem d2_1 : decode prog_4_method_2_code 1 = .ok (.lconst 0, 1) := by decide +kernel
theorem d2_2 : decode prog_4_method_2_code 2 = .ok (.lcmp, 1) := by decide +kernel
theorem d2_3 : decode prog_4_method_2_code 3 = .ok (.ifCond .lt 14, 3) := by decide +kernel
theorem d2_6 : decode prog_4_method_2_code 6 = .ok (.lload_n 1, 1) := by decide +kernel
theorem d2_7 : decode prog_4_method_2_code 7 = .ok (.invokestatic 21, 3) := by decide +kernel
theorem d2_10 : decode prog_4_method_2_code 10 = .ok (.aload_n 0, 1) := by decide +kernel
theorem d2_11 : decode prog_4_method_2_code 11 = .ok (.arraylength, 1) := by decide +kernel
theorem d2_12 : decode prog_4_method_2_code 12 = .ok (.i2l, 1) := by decide +kernel
theorem d2_13 : decode prog_4_method_2_code 13 = .ok (.lcmp, 1) := by decide +kernel
theorem d2_14 : decode prog_4_method_2_code 14 = .ok (.ifCond .eq 19, 3) := by decide +kernel
theorem d2_17 : decode prog_4_method_2_code 17 = .ok (.new 27, 3) := by decide +kernel
theorem d2_20 : decode prog_4_method_2_code 20 = .ok (.dup, 1) := by decide +kernel
theorem d2_21 : decode prog_4_method_2_code 21 = .ok (.aload_n 0, 1) := by decide +kernel
theorem d2_22 : decode prog_4_method_2_code 22 = .ok (.arraylength, 1) := by decide +kernel
theorem d2_23 : decode prog_4_method_2_code 23 = .ok (.lload_n 1, 1) := by decide +kernel
theorem d2_29 : decode prog_4_method_2_code 29 = .ok (.invokespecial 33, 3) := by decide +kernel
theorem d2_32 : decode prog_4_method_2_code 32 = .ok (.athrow, 1) := by decide +kernel
theorem d2_33 : decode prog_4_method_2_code 33 = .ok (.return_, 1) := by decide +kernel
theorem pn_2 : plainFor (⟨"com/example/runfold/runfold/codecs/BitReader", "checkLength", "([BJ)V"⟩ : MethodName) = true := plainFor_of_name (by first | (simp [plainName, overriddenIn]; done) | decide +kernel)
theorem ef_2 (m : MethodId) (x0 : Addr) (x1 : Int64) : entryFrame m #[(.ref x0), (.long x1)] 3 = mkF m 0 #[.val (.ref x0), .val (.long x1), .second] [] := by first | (simp [entryFrame, mkF, argsToLocals, Value.category]; done) | rfl
theorem pd_0 : parseMethodDescriptor "(J)J" = some ⟨[.long], some .long⟩ := by decide +kernel
set_option maxRecDepth 65536 in
set_option maxHeartbeats 40000000 in
theorem rm2 (l : Launch) (Z : State) (a0 : Array Value) (hw : ∀ d ∈ tables_1, d.before a0 Z = true) (a1 : Addr) (q2 : Int64) (k : ClassId) (n : Int32) (vs : List Value) (dv : Value) (h0 : Heap) (n0 : Nat) (Z0 : n0 ≤ h0.size) (F : Arv Z h0 a1 k .byte n vs dv) (H : ¬ (q2 < (0 : Int64)) ∧ own_bf q2 = n.toInt64) :
    own_Met l Z [] (⟨"com/example/runfold/runfold/codecs/BitReader", "checkLength", "([BJ)V"⟩ : MethodName) prog_4_method_2_code 3 none ({ frames := 1, cells := 0, slots := 0, locals := 13 } : Room) #[(.ref a1), (.long q2)] h0 (own_QP none h0 n0) := by
  refine own_enter pn_2 ?_
  intro p e s m below meth c s₁ X0 hx hby hml hown hret hlk hnm hZ e0
  have hml : c.maxLocals = 3 := hml
  have N0 := Fr.nil n0
  rw [ef_2 m a1 q2]
  show own_Fin p e below s _ _ _ (s₁.setTop (mkF m 0 #[.val (.ref a1), .val (.long q2), .second] []))
  refine own_Fin.step (fun _ => XS.lloadN X0.here hx rfl (hb hby d2_0) rfl) ?_
  show own_Fin p e below s _ _ _ (s₁.setTop (mkF m 1 #[.val (.ref a1), .val (.long q2), .second] [(.long q2)]))
  refine own_Fin.step (fun _ => XS.lconst X0.here hx rfl (hb hby d2_1)) ?_
  show own_Fin p e below s _ _ _ (s₁.setTop (mkF m 2 #[.val (.ref a1), .val (.long q2), .second] [(.long (0 : Int64)), (.long q2)]))
  refine own_Fin.step (fun _ => XS.lcmp X0.here hx rfl (hb hby d2_2) rfl) ?_
  show own_Fin p e below s _ _ _ (s₁.setTop (mkF m 3 #[.val (.ref a1), .val (.long q2), .second] [(.int (XT.cmpL q2 (0 : Int64)))]))
  refine own_Fin.step (fun _ => XS.ifNo X0.here hx rfl (hb hby d2_3) rfl (XT.ll_lt_f H.1)) ?_
  show own_Fin p e below s _ _ _ (s₁.setTop (mkF m 6 #[.val (.ref a1), .val (.long q2), .second] []))
  refine own_Fin.step (fun _ => XS.lloadN X0.here hx rfl (hb hby d2_6) rfl) ?_
  show own_Fin p e below s _ _ _ (s₁.setTop (mkF m 7 #[.val (.ref a1), .val (.long q2), .second] [(.long q2)]))
  obtain ⟨_, T1, L1, X1, ⟨rfl, N1q, e1⟩, st1⟩ := own_callS X0 hx hZ hown (own_w hw 5 rfl) (own_w hw 6 rfl) (own_w hw 7 rfl) (own_w hw 8 rfl) (by decide) (rm1 l Z a0 hw q2 h0 n0 Z0) (by decide) (by decide) e0 (W := 0) (g := (mkF m 7 #[.val (.ref a1), .val (.long q2), .second] [(.long q2)])) rfl (by rw [hml]; rfl) (argsL := [(.long q2)]) (rest := []) (lenOf pd_0 rfl) rfl rfl (by show 2 * 0 + _ ≤ _; exact Nat.le_of_eq rfl) (hb hby d2_7) (by decide) (by decide)
  have N1 := Fr.app N0 N1q
  refine own_Fin.step st1 ?_
  show own_Fin p e below s _ _ _ (T1.setTop (mkF m 10 #[.val (.ref a1), .val (.long q2), .second] [(.long (own_bf q2))]))
  refine own_Fin.step (fun _ => XS.aloadN X1.here hx rfl (hb hby d2_10) rfl rfl) ?_
  show own_Fin p e below s _ _ _ (T1.setTop (mkF m 11 #[.val (.ref a1), .val (.long q2), .second] [(.ref a1), (.long (own_bf q2))]))
  refine own_Fin.step (own_len X1 hx hZ e1 F (g := (mkF m 11 #[.val (.ref a1), .val (.long q2), .second] [(.ref a1), (.long (own_bf q2))])) rfl rfl (hb hby d2_11)) ?_
  show own_Fin p e below s _ _ _ (T1.setTop (mkF m 12 #[.val (.ref a1), .val (.long q2), .second] [(.int n), (.long (own_bf q2))]))
  refine own_Fin.step (fun _ => XS.i2l X1.here hx rfl (hb hby d2_12) rfl) ?_
  show own_Fin p e below s _ _ _ (T1.setTop (mkF m 13 #[.val (.ref a1), .val (.long q2), .second] [(.long (n.toInt64)), (.long (own_bf q2))]))
  refine own_Fin.step (fun _ => XS.lcmp X1.here hx rfl (hb hby d2_13) rfl) ?_
  show own_Fin p e below s _ _ _ (T1.setTop (mkF m 14 #[.val (.ref a1), .val (.long q2), .second] [(.int (XT.cmpL (own_bf q2) (n.toInt64)))]))
  refine own_Fin.step (fun _ => XS.ifYes X1.here hx rfl (pc0 := 14) (pc' := 33) rfl (hb hby d2_14) rfl (XT.ll_eq_t H.2) (by decide) (by decide)) ?_
  show own_Fin p e below s _ _ _ (T1.setTop (mkF m 33 #[.val (.ref a1), .val (.long q2), .second] []))
  exact own_ret0 X1 hx hlk hret (hb hby d2_33) ⟨rfl, N1, e1⟩ (by decide) (by decide)
theorem pn_0 : plainFor (⟨"com/example/runfold/runfold/codecs/BitReaderCheckLengthPinLaw", "law", "(III)Z"⟩ : MethodName) = true := plainFor_of_name (by first | (simp [plainName, overriddenIn]; done) | decide +kernel)
theorem ef_0 (m : MethodId) (x0 : Int32) (x1 : Int32) (x2 : Int32) : entryFrame m #[(.int x0), (.int x1), (.int x2)] maxLocals = mkF m 0 #[.val (.int x0), .val (.int x1), .val (.int x2), .unset, .unset, .unset, .unset, .unset, .unset, .unset, .unset, .unset] [] := by first | (simp [entryFrame, mkF, argsToLocals, Value.category, maxLocals]; done) | rfl
theorem pd_1 : parseMethodDescriptor "([BJ)V" = some ⟨[(.array .byte), .long], none⟩ := by decide +kernel
set_option maxRecDepth 65536 in
set_option maxHeartbeats 40000000 in
theorem rm0 (l : Launch) (Z : State) (a0 : Array Value) (hw : ∀ d ∈ tables_1, d.before a0 Z = true) (p1 : Int32) (p2 : Int32) (p3 : Int32)  (h0 : Heap) (n0 : Nat) (Z0 : n0 ≤ h0.size)  :
    own_Met l Z tables_1 x code maxLocals ret room_1 #[(.int p1), (.int p2), (.int p3)] h0 (own_Q0 n0) := by
  refine own_enter pn_0 ?_
  intro p e s m below meth c s₁ X0 hx hby hml hown hret hlk hnm hZ e0
  have hml : c.maxLocals = 12 := hml
  have N0 := Fr.nil n0
  rw [ef_0 m p1 p2 p3]
  show own_Fin p e below s _ _ _ (s₁.setTop (mkF m 0 #[.val (.int p1), .val (.int p2), .val (.int p3), .unset, .unset, .unset, .unset, .unset, .unset, .unset, .unset, .unset] []))
  refine own_Fin.step (fun _ => XS.iloadN X0.here hx rfl (hb hby at_0) rfl) ?_
  show own_Fin p e below s _ _ _ (s₁.setTop (mkF m 1 #[.val (.int p1), .val (.int p2), .val (.int p3), .unset, .unset, .unset, .unset, .unset, .unset, .unset, .unset, .unset] [(.int p3)]))
  refine own_Fin.step (fun _ => XS.i2b X0.here hx rfl (hb hby at_1) rfl) ?_
  show own_Fin p e below s _ _ _ (s₁.setTop (mkF m 2 #[.val (.int p1), .val (.int p2), .val (.int p3), .unset, .unset, .unset, .unset, .unset, .unset, .unset, .unset, .unset] [(.int (p3.toInt8.toInt32))]))
  refine own_Fin.step (fun _ => XS.istoreN X0.here hx rfl (hb hby at_2) rfl (l' := #[.val (.int p1), .val (.int p2), .val (.int p3), .val (.int (p3.toInt8.toInt32)), .unset, .unset, .unset, .unset, .unset, .unset, .unset, .unset]) rfl) ?_
  show own_Fin p e below s _ _ _ (s₁.setTop (mkF m 3 #[.val (.int p1), .val (.int p2), .val (.int p3), .val (.int (p3.toInt8.toInt32)), .unset, .unset, .unset, .unset, .unset, .unset, .unset, .unset] []))
  refine own_Fin.step (fun _ => XS.iconst X0.here hx rfl (hb hby at_3)) ?_
  show own_Fin p e below s _ _ _ (s₁.setTop (mkF m 4 #[.val (.int p1), .val (.int p2), .val (.int p3), .val (.int (p3.toInt8.toInt32)), .unset, .unset, .unset, .unset, .unset, .unset, .unset, .unset] [(.int (0 : Int32))]))
  obtain ⟨T1, h1, k1, b1, X1, e1, E1, g1, V1, st1⟩ := own_newA X0 hx hZ (own_w hw 0 rfl) e0 (ty := .byte) (dv := (.int (0 : Int32))) rfl rfl (g := (mkF m 4 #[.val (.int p1), .val (.int p2), .val (.int p3), .val (.int (p3.toInt8.toInt32)), .unset, .unset, .unset, .unset, .unset, .unset, .unset, .unset] [(.int (0 : Int32))])) rfl (hb hby at_4) rfl (by decide) (cap := 0) (by decide) (by decide) (by decide) (by decide) (0)
  have ge2 : n0 ≤ b1 := Nat.le_trans Z0 (Nat.le_of_eq g1.symm)
  have Z1 : n0 ≤ h1.size := Nat.le_trans Z0 E1.1
  have V1' : Arv Z h1 b1 k1 .byte (0 : Int32) [] (.int (0 : Int32)) := V1
  refine own_Fin.step st1 ?_
  show own_Fin p e below s _ _ _ (T1.setTop (mkF m 6 #[.val (.int p1), .val (.int p2), .val (.int p3), .val (.int (p3.toInt8.toInt32)), .unset, .unset, .unset, .unset, .unset, .unset, .unset, .unset] [(.ref b1)]))
  refine own_Fin.step (fun _ => XS.astore X1.here hx rfl (hb hby at_6) rfl rfl (l' := #[.val (.int p1), .val (.int p2), .val (.int p3), .val (.int (p3.toInt8.toInt32)), .val (.ref b1), .unset, .unset, .unset, .unset, .unset, .unset, .unset]) rfl) ?_
  show own_Fin p e below s _ _ _ (T1.setTop (mkF m 8 #[.val (.int p1), .val (.int p2), .val (.int p3), .val (.int (p3.toInt8.toInt32)), .val (.ref b1), .unset, .unset, .unset, .unset, .unset, .unset, .unset] []))
  refine own_Fin.step (fun _ => XS.iconst X1.here hx rfl (hb hby at_8)) ?_
  show own_Fin p e below s _ _ _ (T1.setTop (mkF m 9 #[.val (.int p1), .val (.int p2), .val (.int p3), .val (.int (p3.toInt8.toInt32)), .val (.ref b1), .unset, .unset, .unset, .unset, .unset, .unset, .unset] [(.int (1 : Int32))]))
  obtain ⟨T3, h3, k3, b3, X3, e3, E3, g3, V3, st3⟩ := own_newA X1 hx hZ (own_w hw 0 rfl) e1 (ty := .byte) (dv := (.int (0 : Int32))) rfl rfl (g := (mkF m 9 #[.val (.int p1), .val (.int p2), .val (.int p3), .val (.int (p3.toInt8.toInt32)), .val (.ref b1), .unset, .unset, .unset, .unset, .unset, .unset, .unset] [(.int (1 : Int32))])) rfl (hb hby at_9) rfl (by decide) (cap := 1) (by decide) (by decide) (by decide) (by decide) (1)
  have ne4 : b1 ≠ b3 := Nat.ne_of_lt (Nat.lt_of_lt_of_eq V1'.lt g3.symm)
  have ge5 : n0 ≤ b3 := Nat.le_trans Z1 (Nat.le_of_eq g3.symm)
  have f6 := V1'.ext E3
  have Z3 : n0 ≤ h3.size := Nat.le_trans Z1 E3.1
  have V3' : Arv Z h3 b3 k3 .byte (1 : Int32) [(.int (0 : Int32))] (.int (0 : Int32)) := V3
  refine own_Fin.step st3 ?_
  show own_Fin p e below s _ _ _ (T3.setTop (mkF m 11 #[.val (.int p1), .val (.int p2), .val (.int p3), .val (.int (p3.toInt8.toInt32)), .val (.ref b1), .unset, .unset, .unset, .unset, .unset, .unset, .unset] [(.ref b3)]))
  refine own_Fin.step (fun _ => XS.dup X3.here hx rfl (hb hby at_11) rfl rfl) ?_
  show own_Fin p e below s _ _ _ (T3.setTop (mkF m 12 #[.val (.int p1), .val (.int p2), .val (.int p3), .val (.int (p3.toInt8.toInt32)), .val (.ref b1), .unset, .unset, .unset, .unset, .unset, .unset, .unset] [(.ref b3), (.ref b3)]))
  refine own_Fin.step (fun _ => XS.iconst X3.here hx rfl (hb hby at_12)) ?_
  show own_Fin p e below s _ _ _ (T3.setTop (mkF m 13 #[.val (.int p1), .val (.int p2), .val (.int p3), .val (.int (p3.toInt8.toInt32)), .val (.ref b1), .unset, .unset, .unset, .unset, .unset, .unset, .unset] [(.int (0 : Int32)), (.ref b3), (.ref b3)]))
  refine own_Fin.step (fun _ => XS.iloadN X3.here hx rfl (hb hby at_13) rfl) ?_
  show own_Fin p e below s _ _ _ (T3.setTop (mkF m 14 #[.val (.int p1), .val (.int p2), .val (.int p3), .val (.int (p3.toInt8.toInt32)), .val (.ref b1), .unset, .unset, .unset, .unset, .unset, .unset, .unset] [(.int (p3.toInt8.toInt32)), (.int (0 : Int32)), (.ref b3), (.ref b3)]))
  obtain ⟨T7, h7, X7, e7, V7, W7, st7⟩ := own_stBn X3 hx hZ e3 V3' (j := (0 : Int32)) ⟨by decide, by decide⟩ (0) rfl (Nat.le_of_ble_eq_true rfl) (g := (mkF m 14 #[.val (.int p1), .val (.int p2), .val (.int p3), .val (.int (p3.toInt8.toInt32)), .val (.ref b1), .unset, .unset, .unset, .unset, .unset, .unset, .unset] [(.int (p3.toInt8.toInt32)), (.int (0 : Int32)), (.ref b3), (.ref b3)])) rfl rfl (hb hby at_14)
  have V7' : Arv Z h7 b3 k3 .byte (1 : Int32) [(.int (p3.toInt8.toInt32))] (.int (0 : Int32)) := V7
  have f8 := f6.other W7 ne4
  have N7 := Fr.snoc X7 N0 ge5
  have Z7 : n0 ≤ h7.size := Nat.le_trans Z3 (Nat.le_of_eq W7.size.symm)
  refine own_Fin.step st7 ?_
  show own_Fin p e below s _ _ _ (T7.setTop (mkF m 15 #[.val (.int p1), .val (.int p2), .val (.int p3), .val (.int (p3.toInt8.toInt32)), .val (.ref b1), .unset, .unset, .unset, .unset, .unset, .unset, .unset] [(.ref b3)]))
  refine own_Fin.step (fun _ => XS.astore X7.here hx rfl (hb hby at_15) rfl rfl (l' := #[.val (.int p1), .val (.int p2), .val (.int p3), .val (.int (p3.toInt8.toInt32)), .val (.ref b1), .val (.ref b3), .unset, .unset, .unset, .unset, .unset, .unset]) rfl) ?_
  show own_Fin p e below s _ _ _ (T7.setTop (mkF m 17 #[.val (.int p1), .val (.int p2), .val (.int p3), .val (.int (p3.toInt8.toInt32)), .val (.ref b1), .val (.ref b3), .unset, .unset, .unset, .unset, .unset, .unset] []))
  refine own_Fin.step (fun _ => XS.iconst X7.here hx rfl (hb hby at_17)) ?_
  show own_Fin p e below s _ _ _ (T7.setTop (mkF m 18 #[.val (.int p1), .val (.int p2), .val (.int p3), .val (.int (p3.toInt8.toInt32)), .val (.ref b1), .val (.ref b3), .unset, .unset, .unset, .unset, .unset, .unset] [(.int (2 : Int32))]))
  obtain ⟨T10, h10, k10, b10, X10, e10, E10, g10, V10, st10⟩ := own_newA X7 hx hZ (own_w hw 0 rfl) e7 (ty := .byte) (dv := (.int (0 : Int32))) rfl rfl (g := (mkF m 18 #[.val (.int p1), .val (.int p2), .val (.int p3), .val (.int (p3.toInt8.toInt32)), .val (.ref b1), .val (.ref b3), .unset, .unset, .unset, .unset, .unset, .unset] [(.int (2 : Int32))])) rfl (hb hby at_18) rfl (by decide) (cap := 2) (by decide) (by decide) (by decide) (by decide) (2)
  have ne11 : b1 ≠ b10 := Nat.ne_of_lt (Nat.lt_of_lt_of_eq f8.lt g10.symm)
  have ne12 : b3 ≠ b10 := Nat.ne_of_lt (Nat.lt_of_lt_of_eq V7'.lt g10.symm)
  have ge13 : n0 ≤ b10 := Nat.le_trans Z7 (Nat.le_of_eq g10.symm)
  have f14 := f8.ext E10
  have f15 := V7'.ext E10
  have Z10 : n0 ≤ h10.size := Nat.le_trans Z7 E10.1
  have V10' : Arv Z h10 b10 k10 .byte (2 : Int32) [(.int (0 : Int32)), (.int (0 : Int32))] (.int (0 : Int32)) := V10
  refine own_Fin.step st10 ?_
  show own_Fin p e below s _ _ _ (T10.setTop (mkF m 20 #[.val (.int p1), .val (.int p2), .val (.int p3), .val (.int (p3.toInt8.toInt32)), .val (.ref b1), .val (.ref b3), .unset, .unset, .unset, .unset, .unset, .unset] [(.ref b10)]))
  refine own_Fin.step (fun _ => XS.dup X10.here hx rfl (hb hby at_20) rfl rfl) ?_
  show own_Fin p e below s _ _ _ (T10.setTop (mkF m 21 #[.val (.int p1), .val (.int p2), .val (.int p3), .val (.int (p3.toInt8.toInt32)), .val (.ref b1), .val (.ref b3), .unset, .unset, .unset, .unset, .unset, .unset] [(.ref b10), (.ref b10)]))
  refine own_Fin.step (fun _ => XS.iconst X10.here hx rfl (hb hby at_21)) ?_
  show own_Fin p e below s _ _ _ (T10.setTop (mkF m 22 #[.val (.int p1), .val (.int p2), .val (.int p3), .val (.int (p3.toInt8.toInt32)), .val (.ref b1), .val (.ref b3), .unset, .unset, .unset, .unset, .unset, .unset] [(.int (0 : Int32)), (.ref b10), (.ref b10)]))
  refine own_Fin.step (fun _ => XS.iloadN X10.here hx rfl (hb hby at_22) rfl) ?_
  show own_Fin p e below s _ _ _ (T10.setTop (mkF m 23 #[.val (.int p1), .val (.int p2), .val (.int p3), .val (.int (p3.toInt8.toInt32)), .val (.ref b1), .val (.ref b3), .unset, .unset, .unset, .unset, .unset, .unset] [(.int (p3.toInt8.toInt32)), (.int (0 : Int32)), (.ref b10), (.ref b10)]))
  obtain ⟨T16, h16, X16, e16, V16, W16, st16⟩ := own_stBn X10 hx hZ e10 V10' (j := (0 : Int32)) ⟨by decide, by decide⟩ (0) rfl (Nat.le_of_ble_eq_true rfl) (g := (mkF m 23 #[.val (.int p1), .val (.int p2), .val (.int p3), .val (.int (p3.toInt8.toInt32)), .val (.ref b1), .val (.ref b3), .unset, .unset, .unset, .unset, .unset, .unset] [(.int (p3.toInt8.toInt32)), (.int (0 : Int32)), (.ref b10), (.ref b10)])) rfl rfl (hb hby at_23)
  have V16' : Arv Z h16 b10 k10 .byte (2 : Int32) [(.int (p3.toInt8.toInt32)), (.int (0 : Int32))] (.int (0 : Int32)) := V16
  have f17 := f14.other W16 ne11
  have f18 := f15.other W16 ne12
  have N16 := Fr.snoc X16 N7 ge13
  have Z16 : n0 ≤ h16.size := Nat.le_trans Z10 (Nat.le_of_eq W16.size.symm)
  refine own_Fin.step st16 ?_
  show own_Fin p e below s _ _ _ (T16.setTop (mkF m 24 #[.val (.int p1), .val (.int p2), .val (.int p3), .val (.int (p3.toInt8.toInt32)), .val (.ref b1), .val (.ref b3), .unset, .unset, .unset, .unset, .unset, .unset] [(.ref b10)]))
  refine own_Fin.step (fun _ => XS.dup X16.here hx rfl (hb hby at_24) rfl rfl) ?_
  show own_Fin p e below s _ _ _ (T16.setTop (mkF m 25 #[.val (.int p1), .val (.int p2), .val (.int p3), .val (.int (p3.toInt8.toInt32)), .val (.ref b1), .val (.ref b3), .unset, .unset, .unset, .unset, .unset, .unset] [(.ref b10), (.ref b10)]))
  refine own_Fin.step (fun _ => XS.iconst X16.here hx rfl (hb hby at_25)) ?_
  show own_Fin p e below s _ _ _ (T16.setTop (mkF m 26 #[.val (.int p1), .val (.int p2), .val (.int p3), .val (.int (p3.toInt8.toInt32)), .val (.ref b1), .val (.ref b3), .unset, .unset, .unset, .unset, .unset, .unset] [(.int (1 : Int32)), (.ref b10), (.ref b10)]))
  refine own_Fin.step (fun _ => XS.iloadN X16.here hx rfl (hb hby at_26) rfl) ?_
  show own_Fin p e below s _ _ _ (T16.setTop (mkF m 27 #[.val (.int p1), .val (.int p2), .val (.int p3), .val (.int (p3.toInt8.toInt32)), .val (.ref b1), .val (.ref b3), .unset, .unset, .unset, .unset, .unset, .unset] [(.int p3), (.int (1 : Int32)), (.ref b10), (.ref b10)]))
  refine own_Fin.step (fun _ => XS.bipush X16.here hx rfl (hb hby at_27)) ?_
  show own_Fin p e below s _ _ _ (T16.setTop (mkF m 29 #[.val (.int p1), .val (.int p2), .val (.int p3), .val (.int (p3.toInt8.toInt32)), .val (.ref b1), .val (.ref b3), .unset, .unset, .unset, .unset, .unset, .unset] [(.int (8 : Int32)), (.int p3), (.int (1 : Int32)), (.ref b10), (.ref b10)]))
  refine own_Fin.step (fun _ => XS.iushr X16.here hx rfl (hb hby at_29) rfl) ?_
  show own_Fin p e below s _ _ _ (T16.setTop (mkF m 30 #[.val (.int p1), .val (.int p2), .val (.int p3), .val (.int (p3.toInt8.toInt32)), .val (.ref b1), .val (.ref b3), .unset, .unset, .unset, .unset, .unset, .unset] [(.int ((p3.toUInt32 >>> ((8 : Int32) &&& 31).toUInt32).toInt32)), (.int (1 : Int32)), (.ref b10), (.ref b10)]))
  refine own_Fin.step (fun _ => XS.i2b X16.here hx rfl (hb hby at_30) rfl) ?_
  show own_Fin p e below s _ _ _ (T16.setTop (mkF m 31 #[.val (.int p1), .val (.int p2), .val (.int p3), .val (.int (p3.toInt8.toInt32)), .val (.ref b1), .val (.ref b3), .unset, .unset, .unset, .unset, .unset, .unset] [(.int (((p3.toUInt32 >>> ((8 : Int32) &&& 31).toUInt32).toInt32).toInt8.toInt32)), (.int (1 : Int32)), (.ref b10), (.ref b10)]))
  obtain ⟨T20, h20, X20, e20, V20, W20, st20⟩ := own_stBn X16 hx hZ e16 V16' (j := (1 : Int32)) ⟨by decide, by decide⟩ (1) rfl (Nat.le_of_ble_eq_true rfl) (g := (mkF m 31 #[.val (.int p1), .val (.int p2), .val (.int p3), .val (.int (p3.toInt8.toInt32)), .val (.ref b1), .val (.ref b3), .unset, .unset, .unset, .unset, .unset, .unset] [(.int (((p3.toUInt32 >>> ((8 : Int32) &&& 31).toUInt32).toInt32).toInt8.toInt32)), (.int (1 : Int32)), (.ref b10), (.ref b10)])) rfl rfl (hb hby at_31)
  have V20' : Arv Z h20 b10 k10 .byte (2 : Int32) [(.int (p3.toInt8.toInt32)), (.int (((p3.toUInt32 >>> ((8 : Int32) &&& 31).toUInt32).toInt32).toInt8.toInt32))] (.int (0 : Int32)) := V20
  have f21 := f17.other W20 ne11
  have f22 := f18.other W20 ne12
  have N20 := Fr.snoc X20 N16 ge13
  have Z20 : n0 ≤ h20.size := Nat.le_trans Z16 (Nat.le_of_eq W20.size.symm)
  refine own_Fin.step st20 ?_
  show own_Fin p e below s _ _ _ (T20.setTop (mkF m 32 #[.val (.int p1), .val (.int p2), .val (.int p3), .val (.int (p3.toInt8.toInt32)), .val (.ref b1), .val (.ref b3), .unset, .unset, .unset, .unset, .unset, .unset] [(.ref b10)]))
  refine own_Fin.step (fun _ => XS.astore X20.here hx rfl (hb hby at_32) rfl rfl (l' := #[.val (.int p1), .val (.int p2), .val (.int p3), .val (.int (p3.toInt8.toInt32)), .val (.ref b1), .val (.ref b3), .val (.ref b10), .unset, .unset, .unset, .unset, .unset]) rfl) ?_
  show own_Fin p e below s _ _ _ (T20.setTop (mkF m 34 #[.val (.int p1), .val (.int p2), .val (.int p3), .val (.int (p3.toInt8.toInt32)), .val (.ref b1), .val (.ref b3), .val (.ref b10), .unset, .unset, .unset, .unset, .unset] []))
  refine own_Fin.step (fun _ => XS.iconst X20.here hx rfl (hb hby at_34)) ?_
  show own_Fin p e below s _ _ _ (T20.setTop (mkF m 35 #[.val (.int p1), .val (.int p2), .val (.int p3), .val (.int (p3.toInt8.toInt32)), .val (.ref b1), .val (.ref b3), .val (.ref b10), .unset, .unset, .unset, .unset, .unset] [(.int (3 : Int32))]))
  obtain ⟨T24, h24, k24, b24, X24, e24, E24, g24, V24, st24⟩ := own_newA X20 hx hZ (own_w hw 0 rfl) e20 (ty := .byte) (dv := (.int (0 : Int32))) rfl rfl (g := (mkF m 35 #[.val (.int p1), .val (.int p2), .val (.int p3), .val (.int (p3.toInt8.toInt32)), .val (.ref b1), .val (.ref b3), .val (.ref b10), .unset, .unset, .unset, .unset, .unset] [(.int (3 : Int32))])) rfl (hb hby at_35) rfl (by decide) (cap := 3) (by decide) (by decide) (by decide) (by decide) (3)
  have ne25 : b1 ≠ b24 := Nat.ne_of_lt (Nat.lt_of_lt_of_eq f21.lt g24.symm)
  have ne26 : b10 ≠ b24 := Nat.ne_of_lt (Nat.lt_of_lt_of_eq V20'.lt g24.symm)
  have ne27 : b3 ≠ b24 := Nat.ne_of_lt (Nat.lt_of_lt_of_eq f22.lt g24.symm)
  have ge28 : n0 ≤ b24 := Nat.le_trans Z20 (Nat.le_of_eq g24.symm)
  have f29 := f21.ext E24
  have f30 := f22.ext E24
  have f31 := V20'.ext E24
  have Z24 : n0 ≤ h24.size := Nat.le_trans Z20 E24.1
  have V24' : Arv Z h24 b24 k24 .byte (3 : Int32) [(.int (0 : Int32)), (.int (0 : Int32)), (.int (0 : Int32))] (.int (0 : Int32)) := V24
  refine own_Fin.step st24 ?_
  show own_Fin p e below s _ _ _ (T24.setTop (mkF m 37 #[.val (.int p1), .val (.int p2), .val (.int p3), .val (.int (p3.toInt8.toInt32)), .val (.ref b1), .val (.ref b3), .val (.ref b10), .unset, .unset, .unset, .unset, .unset] [(.ref b24)]))
  refine own_Fin.step (fun _ => XS.dup X24.here hx rfl (hb hby at_37) rfl rfl) ?_
  show own_Fin p e below s _ _ _ (T24.setTop (mkF m 38 #[.val (.int p1), .val (.int p2), .val (.int p3), .val (.int (p3.toInt8.toInt32)), .val (.ref b1), .val (.ref b3), .val (.ref b10), .unset, .unset, .unset, .unset, .unset] [(.ref b24), (.ref b24)]))
  refine own_Fin.step (fun _ => XS.iconst X24.here hx rfl (hb hby at_38)) ?_
  show own_Fin p e below s _ _ _ (T24.setTop (mkF m 39 #[.val (.int p1), .val (.int p2), .val (.int p3), .val (.int (p3.toInt8.toInt32)), .val (.ref b1), .val (.ref b3), .val (.ref b10), .unset, .unset, .unset, .unset, .unset] [(.int (0 : Int32)), (.ref b24), (.ref b24)]))
  refine own_Fin.step (fun _ => XS.iloadN X24.here hx rfl (hb hby at_39) rfl) ?_
  show own_Fin p e below s _ _ _ (T24.setTop (mkF m 40 #[.val (.int p1), .val (.int p2), .val (.int p3), .val (.int (p3.toInt8.toInt32)), .val (.ref b1), .val (.ref b3), .val (.ref b10), .unset, .unset, .unset, .unset, .unset] [(.int (p3.toInt8.toInt32)), (.int (0 : Int32)), (.ref b24), (.ref b24)]))
  obtain ⟨T32, h32, X32, e32, V32, W32, st32⟩ := own_stBn X24 hx hZ e24 V24' (j := (0 : Int32)) ⟨by decide, by decide⟩ (0) rfl (Nat.le_of_ble_eq_true rfl) (g := (mkF m 40 #[.val (.int p1), .val (.int p2), .val (.int p3), .val (.int (p3.toInt8.toInt32)), .val (.ref b1), .val (.ref b3), .val (.ref b10), .unset, .unset, .unset, .unset, .unset] [(.int (p3.toInt8.toInt32)), (.int (0 : Int32)), (.ref b24), (.ref b24)])) rfl rfl (hb hby at_40)
  have V32' : Arv Z h32 b24 k24 .byte (3 : Int32) [(.int (p3.toInt8.toInt32)), (.int (0 : Int32)), (.int (0 : Int32))] (.int (0 : Int32)) := V32
  have f33 := f29.other W32 ne25
  have f34 := f30.other W32 ne27
  have f35 := f31.other W32 ne26
  have N32 := Fr.snoc X32 N20 ge28
  have Z32 : n0 ≤ h32.size := Nat.le_trans Z24 (Nat.le_of_eq W32.size.symm)
  refine own_Fin.step st32 ?_
  show own_Fin p e below s _ _ _ (T32.setTop (mkF m 41 #[.val (.int p1), .val (.int p2), .val (.int p3), .val (.int (p3.toInt8.toInt32)), .val (.ref b1), .val (.ref b3), .val (.ref b10), .unset, .unset, .unset, .unset, .unset] [(.ref b24)]))
  refine own_Fin.step (fun _ => XS.dup X32.here hx rfl (hb hby at_41) rfl rfl) ?_
  show own_Fin p e below s _ _ _ (T32.setTop (mkF m 42 #[.val (.int p1), .val (.int p2), .val (.int p3), .val (.int (p3.toInt8.toInt32)), .val (.ref b1), .val (.ref b3), .val (.ref b10), .unset, .unset, .unset, .unset, .unset] [(.ref b24), (.ref b24)]))
  refine own_Fin.step (fun _ => XS.iconst X32.here hx rfl (hb hby at_42)) ?_
  show own_Fin p e below s _ _ _ (T32.setTop (mkF m 43 #[.val (.int p1), .val (.int p2), .val (.int p3), .val (.int (p3.toInt8.toInt32)), .val (.ref b1), .val (.ref b3), .val (.ref b10), .unset, .unset, .unset, .unset, .unset] [(.int (1 : Int32)), (.ref b24), (.ref b24)]))
  refine own_Fin.step (fun _ => XS.iloadN X32.here hx rfl (hb hby at_43) rfl) ?_
  show own_Fin p e below s _ _ _ (T32.setTop (mkF m 44 #[.val (.int p1), .val (.int p2), .val (.int p3), .val (.int (p3.toInt8.toInt32)), .val (.ref b1), .val (.ref b3), .val (.ref b10), .unset, .unset, .unset, .unset, .unset] [(.int p3), (.int (1 : Int32)), (.ref b24), (.ref b24)]))
  refine own_Fin.step (fun _ => XS.bipush X32.here hx rfl (hb hby at_44)) ?_
  show own_Fin p e below s _ _ _ (T32.setTop (mkF m 46 #[.val (.int p1), .val (.int p2), .val (.int p3), .val (.int (p3.toInt8.toInt32)), .val (.ref b1), .val (.ref b3), .val (.ref b10), .unset, .unset, .unset, .unset, .unset] [(.int (8 : Int32)), (.int p3), (.int (1 : Int32)), (.ref b24), (.ref b24)]))
  refine own_Fin.step (fun _ => XS.iushr X32.here hx rfl (hb hby at_46) rfl) ?_
  show own_Fin p e below s _ _ _ (T32.setTop (mkF m 47 #[.val (.int p1), .val (.int p2), .val (.int p3), .val (.int (p3.toInt8.toInt32)), .val (.ref b1), .val (.ref b3), .val (.ref b10), .unset, .unset, .unset, .unset, .unset] [(.int ((p3.toUInt32 >>> ((8 : Int32) &&& 31).toUInt32).toInt32)), (.int (1 : Int32)), (.ref b24), (.ref b24)]))
  refine own_Fin.step (fun _ => XS.i2b X32.here hx rfl (hb hby at_47) rfl) ?_
  show own_Fin p e below s _ _ _ (T32.setTop (mkF m 48 #[.val (.int p1), .val (.int p2), .val (.int p3), .val (.int (p3.toInt8.toInt32)), .val (.ref b1), .val (.ref b3), .val (.ref b10), .unset, .unset, .unset, .unset, .unset] [(.int (((p3.toUInt32 >>> ((8 : Int32) &&& 31).toUInt32).toInt32).toInt8.toInt32)), (.int (1 : Int32)), (.ref b24), (.ref b24)]))
  obtain ⟨T37, h37, X37, e37, V37, W37, st37⟩ := own_stBn X32 hx hZ e32 V32' (j := (1 : Int32)) ⟨by decide, by decide⟩ (1) rfl (Nat.le_of_ble_eq_true rfl) (g := (mkF m 48 #[.val (.int p1), .val (.int p2), .val (.int p3), .val (.int (p3.toInt8.toInt32)), .val (.ref b1), .val (.ref b3), .val (.ref b10), .unset, .unset, .unset, .unset, .unset] [(.int (((p3.toUInt32 >>> ((8 : Int32) &&& 31).toUInt32).toInt32).toInt8.toInt32)), (.int (1 : Int32)), (.ref b24), (.ref b24)])) rfl rfl (hb hby at_48)
  have V37' : Arv Z h37 b24 k24 .byte (3 : Int32) [(.int (p3.toInt8.toInt32)), (.int (((p3.toUInt32 >>> ((8 : Int32) &&& 31).toUInt32).toInt32).toInt8.toInt32)), (.int (0 : Int32))] (.int (0 : Int32)) := V37
  have f38 := f33.other W37 ne25
  have f39 := f34.other W37 ne27
  have f40 := f35.other W37 ne26
  have N37 := Fr.snoc X37 N32 ge28
  have Z37 : n0 ≤ h37.size := Nat.le_trans Z32 (Nat.le_of_eq W37.size.symm)
  refine own_Fin.step st37 ?_
  show own_Fin p e below s _ _ _ (T37.setTop (mkF m 49 #[.val (.int p1), .val (.int p2), .val (.int p3), .val (.int (p3.toInt8.toInt32)), .val (.ref b1), .val (.ref b3), .val (.ref b10), .unset, .unset, .unset, .unset, .unset] [(.ref b24)]))
  refine own_Fin.step (fun _ => XS.dup X37.here hx rfl (hb hby at_49) rfl rfl) ?_
  show own_Fin p e below s _ _ _ (T37.setTop (mkF m 50 #[.val (.int p1), .val (.int p2), .val (.int p3), .val (.int (p3.toInt8.toInt32)), .val (.ref b1), .val (.ref b3), .val (.ref b10), .unset, .unset, .unset, .unset, .unset] [(.ref b24), (.ref b24)]))
  refine own_Fin.step (fun _ => XS.iconst X37.here hx rfl (hb hby at_50)) ?_
  show own_Fin p e below s _ _ _ (T37.setTop (mkF m 51 #[.val (.int p1), .val (.int p2), .val (.int p3), .val (.int (p3.toInt8.toInt32)), .val (.ref b1), .val (.ref b3), .val (.ref b10), .unset, .unset, .unset, .unset, .unset] [(.int (2 : Int32)), (.ref b24), (.ref b24)]))
  refine own_Fin.step (fun _ => XS.iloadN X37.here hx rfl (hb hby at_51) rfl) ?_
  show own_Fin p e below s _ _ _ (T37.setTop (mkF m 52 #[.val (.int p1), .val (.int p2), .val (.int p3), .val (.int (p3.toInt8.toInt32)), .val (.ref b1), .val (.ref b3), .val (.ref b10), .unset, .unset, .unset, .unset, .unset] [(.int p3), (.int (2 : Int32)), (.ref b24), (.ref b24)]))
  refine own_Fin.step (fun _ => XS.bipush X37.here hx rfl (hb hby at_52)) ?_
  show own_Fin p e below s _ _ _ (T37.setTop (mkF m 54 #[.val (.int p1), .val (.int p2), .val (.int p3), .val (.int (p3.toInt8.toInt32)), .val (.ref b1), .val (.ref b3), .val (.ref b10), .unset, .unset, .unset, .unset, .unset] [(.int (16 : Int32)), (.int p3), (.int (2 : Int32)), (.ref b24), (.ref b24)]))
  refine own_Fin.step (fun _ => XS.iushr X37.here hx rfl (hb hby at_54) rfl) ?_
  show own_Fin p e below s _ _ _ (T37.setTop (mkF m 55 #[.val (.int p1), .val (.int p2), .val (.int p3), .val (.int (p3.toInt8.toInt32)), .val (.ref b1), .val (.ref b3), .val (.ref b10), .unset, .unset, .unset, .unset, .unset] [(.int ((p3.toUInt32 >>> ((16 : Int32) &&& 31).toUInt32).toInt32)), (.int (2 : Int32)), (.ref b24), (.ref b24)]))
  refine own_Fin.step (fun _ => XS.i2b X37.here hx rfl (hb hby at_55) rfl) ?_
  show own_Fin p e below s _ _ _ (T37.setTop (mkF m 56 #[.val (.int p1), .val (.int p2), .val (.int p3), .val (.int (p3.toInt8.toInt32)), .val (.ref b1), .val (.ref b3), .val (.ref b10), .unset, .unset, .unset, .unset, .unset] [(.int (((p3.toUInt32 >>> ((16 : Int32) &&& 31).toUInt32).toInt32).toInt8.toInt32)), (.int (2 : Int32)), (.ref b24), (.ref b24)]))
  obtain ⟨T42, h42, X42, e42, V42, W42, st42⟩ := own_stBn X37 hx hZ e37 V37' (j := (2 : Int32)) ⟨by decide, by decide⟩ (2) rfl (Nat.le_of_ble_eq_true rfl) (g := (mkF m 56 #[.val (.int p1), .val (.int p2), .val (.int p3), .val (.int (p3.toInt8.toInt32)), .val (.ref b1), .val (.ref b3), .val (.ref b10), .unset, .unset, .unset, .unset, .unset] [(.int (((p3.toUInt32 >>> ((16 : Int32) &&& 31).toUInt32).toInt32).toInt8.toInt32)), (.int (2 : Int32)), (.ref b24), (.ref b24)])) rfl rfl (hb hby at_56)
  have V42' : Arv Z h42 b24 k24 .byte (3 : Int32) [(.int (p3.toInt8.toInt32)), (.int (((p3.toUInt32 >>> ((8 : Int32) &&& 31).toUInt32).toInt32).toInt8.toInt32)), (.int (((p3.toUInt32 >>> ((16 : Int32) &&& 31).toUInt32).toInt32).toInt8.toInt32))] (.int (0 : Int32)) := V42
  have f43 := f38.other W42 ne25
  have f44 := f39.other W42 ne27
  have f45 := f40.other W42 ne26
  have N42 := Fr.snoc X42 N37 ge28
  have Z42 : n0 ≤ h42.size := Nat.le_trans Z37 (Nat.le_of_eq W42.size.symm)
  refine own_Fin.step st42 ?_
  show own_Fin p e below s _ _ _ (T42.setTop (mkF m 57 #[.val (.int p1), .val (.int p2), .val (.int p3), .val (.int (p3.toInt8.toInt32)), .val (.ref b1), .val (.ref b3), .val (.ref b10), .unset, .unset, .unset, .unset, .unset] [(.ref b24)]))
  refine own_Fin.step (fun _ => XS.astore X42.here hx rfl (hb hby at_57) rfl rfl (l' := #[.val (.int p1), .val (.int p2), .val (.int p3), .val (.int (p3.toInt8.toInt32)), .val (.ref b1), .val (.ref b3), .val (.ref b10), .val (.ref b24), .unset, .unset, .unset, .unset]) rfl) ?_
  show own_Fin p e below s _ _ _ (T42.setTop (mkF m 59 #[.val (.int p1), .val (.int p2), .val (.int p3), .val (.int (p3.toInt8.toInt32)), .val (.ref b1), .val (.ref b3), .val (.ref b10), .val (.ref b24), .unset, .unset, .unset, .unset] []))
  refine own_Fin.step (fun _ => XS.iloadN X42.here hx rfl (hb hby at_59) rfl) ?_
  show own_Fin p e below s _ _ _ (T42.setTop (mkF m 60 #[.val (.int p1), .val (.int p2), .val (.int p3), .val (.int (p3.toInt8.toInt32)), .val (.ref b1), .val (.ref b3), .val (.ref b10), .val (.ref b24), .unset, .unset, .unset, .unset] [(.int p1)]))
  refine own_Fin.step (fun _ => XS.iconst X42.here hx rfl (hb hby at_60)) ?_
  show own_Fin p e below s _ _ _ (T42.setTop (mkF m 61 #[.val (.int p1), .val (.int p2), .val (.int p3), .val (.int (p3.toInt8.toInt32)), .val (.ref b1), .val (.ref b3), .val (.ref b10), .val (.ref b24), .unset, .unset, .unset, .unset] [(.int (3 : Int32)), (.int p1)]))
  refine own_Fin.step (fun _ => XS.iand X42.here hx rfl (hb hby at_61) rfl) ?_
  show own_Fin p e below s _ _ _ (T42.setTop (mkF m 62 #[.val (.int p1), .val (.int p2), .val (.int p3), .val (.int (p3.toInt8.toInt32)), .val (.ref b1), .val (.ref b3), .val (.ref b10), .val (.ref b24), .unset, .unset, .unset, .unset] [(.int (p1 &&& (3 : Int32)))]))
  generalize hlen : (p1 &&& (3 : Int32)) = len
  rcases (hlen ▸ own_m3 p1 : len = 0 ∨ len = 1 ∨ len = 2 ∨ len = 3) with rfl | rfl | rfl | rfl
  ·
    show own_Fin p e below s _ _ _ (T42.setTop (mkF m 62 #[.val (.int p1), .val (.int p2), .val (.int p3), .val (.int (p3.toInt8.toInt32)), .val (.ref b1), .val (.ref b3), .val (.ref b10), .val (.ref b24), .unset, .unset, .unset, .unset] [(.int (0 : Int32))]))
    refine own_Fin.step (fun _ => XS.istore X42.here hx rfl (hb hby at_62) rfl (l' := #[.val (.int p1), .val (.int p2), .val (.int p3), .val (.int (p3.toInt8.toInt32)), .val (.ref b1), .val (.ref b3), .val (.ref b10), .val (.ref b24), .val (.int (0 : Int32)), .unset, .unset, .unset]) rfl) ?_
    show own_Fin p e below s _ _ _ (T42.setTop (mkF m 64 #[.val (.int p1), .val (.int p2), .val (.int p3), .val (.int (p3.toInt8.toInt32)), .val (.ref b1), .val (.ref b3), .val (.ref b10), .val (.ref b24), .val (.int (0 : Int32)), .unset, .unset, .unset] []))
    refine own_Fin.step (fun _ => XS.iload X42.here hx rfl (hb hby at_64) rfl) ?_
    show own_Fin p e below s _ _ _ (T42.setTop (mkF m 66 #[.val (.int p1), .val (.int p2), .val (.int p3), .val (.int (p3.toInt8.toInt32)), .val (.ref b1), .val (.ref b3), .val (.ref b10), .val (.ref b24), .val (.int (0 : Int32)), .unset, .unset, .unset] [(.int (0 : Int32))]))
    refine own_Fin.step (fun _ => XS.ifNo X42.here hx rfl (hb hby at_66) rfl (XT.i0_ne_f (by decide : (0 : Int32) = (0 : Int32)))) ?_
    show own_Fin p e below s _ _ _ (T42.setTop (mkF m 69 #[.val (.int p1), .val (.int p2), .val (.int p3), .val (.int (p3.toInt8.toInt32)), .val (.ref b1), .val (.ref b3), .val (.ref b10), .val (.ref b24), .val (.int (0 : Int32)), .unset, .unset, .unset] []))
    refine own_Fin.step (fun _ => XS.aload X42.here hx rfl (hb hby at_69) rfl rfl) ?_
    show own_Fin p e below s _ _ _ (T42.setTop (mkF m 71 #[.val (.int p1), .val (.int p2), .val (.int p3), .val (.int (p3.toInt8.toInt32)), .val (.ref b1), .val (.ref b3), .val (.ref b10), .val (.ref b24), .val (.int (0 : Int32)), .unset, .unset, .unset] [(.ref b1)]))
    refine own_Fin.step (fun _ => XS.astore X42.here hx rfl (hb hby at_71) rfl rfl (l' := #[.val (.int p1), .val (.int p2), .val (.int p3), .val (.int (p3.toInt8.toInt32)), .val (.ref b1), .val (.ref b3), .val (.ref b10), .val (.ref b24), .val (.int (0 : Int32)), .val (.ref b1), .unset, .unset]) rfl) ?_
    show own_Fin p e below s _ _ _ (T42.setTop (mkF m 73 #[.val (.int p1), .val (.int p2), .val (.int p3), .val (.int (p3.toInt8.toInt32)), .val (.ref b1), .val (.ref b3), .val (.ref b10), .val (.ref b24), .val (.int (0 : Int32)), .val (.ref b1), .unset, .unset] []))
    refine own_Fin.step (fun _ => XS.goto X42.here hx rfl (pc0 := 73) (pc' := 106) rfl (hb hby at_73) (by decide) (by decide)) ?_
    show own_Fin p e below s _ _ _ (T42.setTop (mkF m 106 #[.val (.int p1), .val (.int p2), .val (.int p3), .val (.int (p3.toInt8.toInt32)), .val (.ref b1), .val (.ref b3), .val (.ref b10), .val (.ref b24), .val (.int (0 : Int32)), .val (.ref b1), .unset, .unset] []))
    refine own_Fin.step (fun _ => XS.iload X42.here hx rfl (hb hby at_106) rfl) ?_
    show own_Fin p e below s _ _ _ (T42.setTop (mkF m 108 #[.val (.int p1), .val (.int p2), .val (.int p3), .val (.int (p3.toInt8.toInt32)), .val (.ref b1), .val (.ref b3), .val (.ref b10), .val (.ref b24), .val (.int (0 : Int32)), .val (.ref b1), .unset, .unset] [(.int (0 : Int32))]))
    refine own_Fin.step (fun _ => XS.ifNo X42.here hx rfl (hb hby at_108) rfl (XT.i0_ne_f (by decide : (0 : Int32) = (0 : Int32)))) ?_
    show own_Fin p e below s _ _ _ (T42.setTop (mkF m 111 #[.val (.int p1), .val (.int p2), .val (.int p3), .val (.int (p3.toInt8.toInt32)), .val (.ref b1), .val (.ref b3), .val (.ref b10), .val (.ref b24), .val (.int (0 : Int32)), .val (.ref b1), .unset, .unset] []))
    refine own_Fin.step (fun _ => XS.lconst X42.here hx rfl (hb hby at_111)) ?_
    show own_Fin p e below s _ _ _ (T42.setTop (mkF m 112 #[.val (.int p1), .val (.int p2), .val (.int p3), .val (.int (p3.toInt8.toInt32)), .val (.ref b1), .val (.ref b3), .val (.ref b10), .val (.ref b24), .val (.int (0 : Int32)), .val (.ref b1), .unset, .unset] [(.long (0 : Int64))]))
    refine own_Fin.step (fun _ => XS.lstore X42.here hx rfl (hb hby at_112) rfl (l' := #[.val (.int p1), .val (.int p2), .val (.int p3), .val (.int (p3.toInt8.toInt32)), .val (.ref b1), .val (.ref b3), .val (.ref b10), .val (.ref b24), .val (.int (0 : Int32)), .val (.ref b1), .val (.long (0 : Int64)), .second]) rfl) ?_
    show own_Fin p e below s _ _ _ (T42.setTop (mkF m 114 #[.val (.int p1), .val (.int p2), .val (.int p3), .val (.int (p3.toInt8.toInt32)), .val (.ref b1), .val (.ref b3), .val (.ref b10), .val (.ref b24), .val (.int (0 : Int32)), .val (.ref b1), .val (.long (0 : Int64)), .second] []))
    refine own_Fin.step (fun _ => XS.goto X42.here hx rfl (pc0 := 114) (pc' := 132) rfl (hb hby at_114) (by decide) (by decide)) ?_
    show own_Fin p e below s _ _ _ (T42.setTop (mkF m 132 #[.val (.int p1), .val (.int p2), .val (.int p3), .val (.int (p3.toInt8.toInt32)), .val (.ref b1), .val (.ref b3), .val (.ref b10), .val (.ref b24), .val (.int (0 : Int32)), .val (.ref b1), .val (.long (0 : Int64)), .second] []))
    refine own_Fin.step (fun _ => XS.aload X42.here hx rfl (hb hby at_132) rfl rfl) ?_
    show own_Fin p e below s _ _ _ (T42.setTop (mkF m 134 #[.val (.int p1), .val (.int p2), .val (.int p3), .val (.int (p3.toInt8.toInt32)), .val (.ref b1), .val (.ref b3), .val (.ref b10), .val (.ref b24), .val (.int (0 : Int32)), .val (.ref b1), .val (.long (0 : Int64)), .second] [(.ref b1)]))
    refine own_Fin.step (fun _ => XS.lload X42.here hx rfl (hb hby at_134) rfl) ?_
    show own_Fin p e below s _ _ _ (T42.setTop (mkF m 136 #[.val (.int p1), .val (.int p2), .val (.int p3), .val (.int (p3.toInt8.toInt32)), .val (.ref b1), .val (.ref b3), .val (.ref b10), .val (.ref b24), .val (.int (0 : Int32)), .val (.ref b1), .val (.long (0 : Int64)), .second] [(.long (0 : Int64)), (.ref b1)]))
    obtain ⟨_, T47, L47, X47, ⟨rfl, N47q, e47⟩, st47⟩ := own_callS X42 hx hZ hown (own_w hw 1 rfl) (own_w hw 2 rfl) (own_w hw 3 rfl) (own_w hw 4 rfl) (by decide) (rm2 l Z a0 hw b1 (0 : Int64) k1 (0 : Int32) [] (.int (0 : Int32)) h42 n0 Z42 f43 own_g0) (by decide) (by decide) e42 (W := 0) (g := (mkF m 136 #[.val (.int p1), .val (.int p2), .val (.int p3), .val (.int (p3.toInt8.toInt32)), .val (.ref b1), .val (.ref b3), .val (.ref b10), .val (.ref b24), .val (.int (0 : Int32)), .val (.ref b1), .val (.long (0 : Int64)), .second] [(.long (0 : Int64)), (.ref b1)])) rfl (by rw [hml]; rfl) (argsL := [(.ref b1), (.long (0 : Int64))]) (rest := []) (lenOf pd_1 rfl) rfl rfl (by show 2 * 0 + _ ≤ _; exact Nat.le_of_eq rfl) (hb hby at_136) (by decide) (by decide)
    have N47 := Fr.app N42 N47q
    refine own_Fin.step st47 ?_
    show own_Fin p e below s _ _ _ (T47.setTop (mkF m 139 #[.val (.int p1), .val (.int p2), .val (.int p3), .val (.int (p3.toInt8.toInt32)), .val (.ref b1), .val (.ref b3), .val (.ref b10), .val (.ref b24), .val (.int (0 : Int32)), .val (.ref b1), .val (.long (0 : Int64)), .second] []))
    refine own_Fin.step (fun _ => XS.iconst X47.here hx rfl (hb hby at_139)) ?_
    show own_Fin p e below s _ _ _ (T47.setTop (mkF m 140 #[.val (.int p1), .val (.int p2), .val (.int p3), .val (.int (p3.toInt8.toInt32)), .val (.ref b1), .val (.ref b3), .val (.ref b10), .val (.ref b24), .val (.int (0 : Int32)), .val (.ref b1), .val (.long (0 : Int64)), .second] [(.int (1 : Int32))]))
    exact own_retN X47 hx hlk (t := .boolean) hret (by simp) (hb hby at_140) ⟨rfl, N47⟩ (by decide) (by decide)
  ·
    show own_Fin p e below s _ _ _ (T42.setTop (mkF m 62 #[.val (.int p1), .val (.int p2), .val (.int p3), .val (.int (p3.toInt8.toInt32)), .val (.ref b1), .val (.ref b3), .val (.ref b10), .val (.ref b24), .unset, .unset, .unset, .unset] [(.int (1 : Int32))]))
    refine own_Fin.step (fun _ => XS.istore X42.here hx rfl (hb hby at_62) rfl (l' := #[.val (.int p1), .val (.int p2), .val (.int p3), .val (.int (p3.toInt8.toInt32)), .val (.ref b1), .val (.ref b3), .val (.ref b10), .val (.ref b24), .val (.int (1 : Int32)), .unset, .unset, .unset]) rfl) ?_
    show own_Fin p e below s _ _ _ (T42.setTop (mkF m 64 #[.val (.int p1), .val (.int p2), .val (.int p3), .val (.int (p3.toInt8.toInt32)), .val (.ref b1), .val (.ref b3), .val (.ref b10), .val (.ref b24), .val (.int (1 : Int32)), .unset, .unset, .unset] []))
    refine own_Fin.step (fun _ => XS.iload X42.here hx rfl (hb hby at_64) rfl) ?_
    show own_Fin p e below s _ _ _ (T42.setTop (mkF m 66 #[.val (.int p1), .val (.int p2), .val (.int p3), .val (.int (p3.toInt8.toInt32)), .val (.ref b1), .val (.ref b3), .val (.ref b10), .val (.ref b24), .val (.int (1 : Int32)), .unset, .unset, .unset] [(.int (1 : Int32))]))
    refine own_Fin.step (fun _ => XS.ifYes X42.here hx rfl (pc0 := 66) (pc' := 76) rfl (hb hby at_66) rfl (XT.i0_ne_t (by decide : ¬ ((1 : Int32) = (0 : Int32)))) (by decide) (by decide)) ?_
    show own_Fin p e below s _ _ _ (T42.setTop (mkF m 76 #[.val (.int p1), .val (.int p2), .val (.int p3), .val (.int (p3.toInt8.toInt32)), .val (.ref b1), .val (.ref b3), .val (.ref b10), .val (.ref b24), .val (.int (1 : Int32)), .unset, .unset, .unset] []))
    refine own_Fin.step (fun _ => XS.iload X42.here hx rfl (hb hby at_76) rfl) ?_
    show own_Fin p e below s _ _ _ (T42.setTop (mkF m 78 #[.val (.int p1), .val (.int p2), .val (.int p3), .val (.int (p3.toInt8.toInt32)), .val (.ref b1), .val (.ref b3), .val (.ref b10), .val (.ref b24), .val (.int (1 : Int32)), .unset, .unset, .unset] [(.int (1 : Int32))]))
    refine own_Fin.step (fun _ => XS.iconst X42.here hx rfl (hb hby at_78)) ?_
    show own_Fin p e below s _ _ _ (T42.setTop (mkF m 79 #[.val (.int p1), .val (.int p2), .val (.int p3), .val (.int (p3.toInt8.toInt32)), .val (.ref b1), .val (.ref b3), .val (.ref b10), .val (.ref b24), .val (.int (1 : Int32)), .unset, .unset, .unset] [(.int (1 : Int32)), (.int (1 : Int32))]))
    refine own_Fin.step (fun _ => XS.icmpNo X42.here hx rfl (hb hby at_79) rfl (XT.ii_ne_f (by decide : (1 : Int32) = (1 : Int32)))) ?_
    show own_Fin p e below s _ _ _ (T42.setTop (mkF m 82 #[.val (.int p1), .val (.int p2), .val (.int p3), .val (.int (p3.toInt8.toInt32)), .val (.ref b1), .val (.ref b3), .val (.ref b10), .val (.ref b24), .val (.int (1 : Int32)), .unset, .unset, .unset] []))
    refine own_Fin.step (fun _ => XS.aload X42.here hx rfl (hb hby at_82) rfl rfl) ?_
    show own_Fin p e below s _ _ _ (T42.setTop (mkF m 84 #[.val (.int p1), .val (.int p2), .val (.int p3), .val (.int (p3.toInt8.toInt32)), .val (.ref b1), .val (.ref b3), .val (.ref b10), .val (.ref b24), .val (.int (1 : Int32)), .unset, .unset, .unset] [(.ref b3)]))
    refine own_Fin.step (fun _ => XS.astore X42.here hx rfl (hb hby at_84) rfl rfl (l' := #[.val (.int p1), .val (.int p2), .val (.int p3), .val (.int (p3.toInt8.toInt32)), .val (.ref b1), .val (.ref b3), .val (.ref b10), .val (.ref b24), .val (.int (1 : Int32)), .val (.ref b3), .unset, .unset]) rfl) ?_
    show own_Fin p e below s _ _ _ (T42.setTop (mkF m 86 #[.val (.int p1), .val (.int p2), .val (.int p3), .val (.int (p3.toInt8.toInt32)), .val (.ref b1), .val (.ref b3), .val (.ref b10), .val (.ref b24), .val (.int (1 : Int32)), .val (.ref b3), .unset, .unset] []))
    refine own_Fin.step (fun _ => XS.goto X42.here hx rfl (pc0 := 86) (pc' := 106) rfl (hb hby at_86) (by decide) (by decide)) ?_
    show own_Fin p e below s _ _ _ (T42.setTop (mkF m 106 #[.val (.int p1), .val (.int p2), .val (.int p3), .val (.int (p3.toInt8.toInt32)), .val (.ref b1), .val (.ref b3), .val (.ref b10), .val (.ref b24), .val (.int (1 : Int32)), .val (.ref b3), .unset, .unset] []))
    refine own_Fin.step (fun _ => XS.iload X42.here hx rfl (hb hby at_106) rfl) ?_
    show own_Fin p e below s _ _ _ (T42.setTop (mkF m 108 #[.val (.int p1), .val (.int p2), .val (.int p3), .val (.int (p3.toInt8.toInt32)), .val (.ref b1), .val (.ref b3), .val (.ref b10), .val (.ref b24), .val (.int (1 : Int32)), .val (.ref b3), .unset, .unset] [(.int (1 : Int32))]))
    refine own_Fin.step (fun _ => XS.ifYes X42.here hx rfl (pc0 := 108) (pc' := 117) rfl (hb hby at_108) rfl (XT.i0_ne_t (by decide : ¬ ((1 : Int32) = (0 : Int32)))) (by decide) (by decide)) ?_
    show own_Fin p e below s _ _ _ (T42.setTop (mkF m 117 #[.val (.int p1), .val (.int p2), .val (.int p3), .val (.int (p3.toInt8.toInt32)), .val (.ref b1), .val (.ref b3), .val (.ref b10), .val (.ref b24), .val (.int (1 : Int32)), .val (.ref b3), .unset, .unset] []))
    refine own_Fin.step (X42.ldc2Long hx hown (mvT hZ (own_w hw 10 rfl)) (g := (mkF m 117 #[.val (.int p1), .val (.int p2), .val (.int p3), .val (.int (p3.toInt8.toInt32)), .val (.ref b1), .val (.ref b3), .val (.ref b10), .val (.ref b24), .val (.int (1 : Int32)), .val (.ref b3), .unset, .unset] [])) rfl (hb hby at_117)) ?_
    show own_Fin p e below s _ _ _ (T42.setTop (mkF m 120 #[.val (.int p1), .val (.int p2), .val (.int p3), .val (.int (p3.toInt8.toInt32)), .val (.ref b1), .val (.ref b3), .val (.ref b10), .val (.ref b24), .val (.int (1 : Int32)), .val (.ref b3), .unset, .unset] [(.long (8 : Int64))]))
    refine own_Fin.step (fun _ => XS.iload X42.here hx rfl (hb hby at_120) rfl) ?_
    show own_Fin p e below s _ _ _ (T42.setTop (mkF m 122 #[.val (.int p1), .val (.int p2), .val (.int p3), .val (.int (p3.toInt8.toInt32)), .val (.ref b1), .val (.ref b3), .val (.ref b10), .val (.ref b24), .val (.int (1 : Int32)), .val (.ref b3), .unset, .unset] [(.int (1 : Int32)), (.long (8 : Int64))]))
    refine own_Fin.step (fun _ => XS.i2l X42.here hx rfl (hb hby at_122) rfl) ?_
    show own_Fin p e below s _ _ _ (T42.setTop (mkF m 123 #[.val (.int p1), .val (.int p2), .val (.int p3), .val (.int (p3.toInt8.toInt32)), .val (.ref b1), .val (.ref b3), .val (.ref b10), .val (.ref b24), .val (.int (1 : Int32)), .val (.ref b3), .unset, .unset] [(.long ((1 : Int32).toInt64)), (.long (8 : Int64))]))
    refine own_Fin.step (fun _ => XS.lmul X42.here hx rfl (hb hby at_123) rfl) ?_
    show own_Fin p e below s _ _ _ (T42.setTop (mkF m 124 #[.val (.int p1), .val (.int p2), .val (.int p3), .val (.int (p3.toInt8.toInt32)), .val (.ref b1), .val (.ref b3), .val (.ref b10), .val (.ref b24), .val (.int (1 : Int32)), .val (.ref b3), .unset, .unset] [(.long ((8 : Int64) * ((1 : Int32).toInt64)))]))
    refine own_Fin.step (fun _ => XS.iloadN X42.here hx rfl (hb hby at_124) rfl) ?_
    show own_Fin p e below s _ _ _ (T42.setTop (mkF m 125 #[.val (.int p1), .val (.int p2), .val (.int p3), .val (.int (p3.toInt8.toInt32)), .val (.ref b1), .val (.ref b3), .val (.ref b10), .val (.ref b24), .val (.int (1 : Int32)), .val (.ref b3), .unset, .unset] [(.int p2), (.long ((8 : Int64) * ((1 : Int32).toInt64)))]))
    refine own_Fin.step (fun _ => XS.bipush X42.here hx rfl (hb hby at_125)) ?_
    show own_Fin p e below s _ _ _ (T42.setTop (mkF m 127 #[.val (.int p1), .val (.int p2), .val (.int p3), .val (.int (p3.toInt8.toInt32)), .val (.ref b1), .val (.ref b3), .val (.ref b10), .val (.ref b24), .val (.int (1 : Int32)), .val (.ref b3), .unset, .unset] [(.int (7 : Int32)), (.int p2), (.long ((8 : Int64) * ((1 : Int32).toInt64)))]))
    refine own_Fin.step (fun _ => XS.iand X42.here hx rfl (hb hby at_127) rfl) ?_
    show own_Fin p e below s _ _ _ (T42.setTop (mkF m 128 #[.val (.int p1), .val (.int p2), .val (.int p3), .val (.int (p3.toInt8.toInt32)), .val (.ref b1), .val (.ref b3), .val (.ref b10), .val (.ref b24), .val (.int (1 : Int32)), .val (.ref b3), .unset, .unset] [(.int (p2 &&& (7 : Int32))), (.long ((8 : Int64) * ((1 : Int32).toInt64)))]))
    refine own_Fin.step (fun _ => XS.i2l X42.here hx rfl (hb hby at_128) rfl) ?_
    show own_Fin p e below s _ _ _ (T42.setTop (mkF m 129 #[.val (.int p1), .val (.int p2), .val (.int p3), .val (.int (p3.toInt8.toInt32)), .val (.ref b1), .val (.ref b3), .val (.ref b10), .val (.ref b24), .val (.int (1 : Int32)), .val (.ref b3), .unset, .unset] [(.long ((p2 &&& (7 : Int32)).toInt64)), (.long ((8 : Int64) * ((1 : Int32).toInt64)))]))
    refine own_Fin.step (fun _ => XS.lsub X42.here hx rfl (hb hby at_129) rfl) ?_
    show own_Fin p e below s _ _ _ (T42.setTop (mkF m 130 #[.val (.int p1), .val (.int p2), .val (.int p3), .val (.int (p3.toInt8.toInt32)), .val (.ref b1), .val (.ref b3), .val (.ref b10), .val (.ref b24), .val (.int (1 : Int32)), .val (.ref b3), .unset, .unset] [(.long (((8 : Int64) * ((1 : Int32).toInt64)) - ((p2 &&& (7 : Int32)).toInt64)))]))
    refine own_Fin.step (fun _ => XS.lstore X42.here hx rfl (hb hby at_130) rfl (l' := #[.val (.int p1), .val (.int p2), .val (.int p3), .val (.int (p3.toInt8.toInt32)), .val (.ref b1), .val (.ref b3), .val (.ref b10), .val (.ref b24), .val (.int (1 : Int32)), .val (.ref b3), .val (.long (((8 : Int64) * ((1 : Int32).toInt64)) - ((p2 &&& (7 : Int32)).toInt64))), .second]) rfl) ?_
    show own_Fin p e below s _ _ _ (T42.setTop (mkF m 132 #[.val (.int p1), .val (.int p2), .val (.int p3), .val (.int (p3.toInt8.toInt32)), .val (.ref b1), .val (.ref b3), .val (.ref b10), .val (.ref b24), .val (.int (1 : Int32)), .val (.ref b3), .val (.long (((8 : Int64) * ((1 : Int32).toInt64)) - ((p2 &&& (7 : Int32)).toInt64))), .second] []))
    refine own_Fin.step (fun _ => XS.aload X42.here hx rfl (hb hby at_132) rfl rfl) ?_
    show own_Fin p e below s _ _ _ (T42.setTop (mkF m 134 #[.val (.int p1), .val (.int p2), .val (.int p3), .val (.int (p3.toInt8.toInt32)), .val (.ref b1), .val (.ref b3), .val (.ref b10), .val (.ref b24), .val (.int (1 : Int32)), .val (.ref b3), .val (.long (((8 : Int64) * ((1 : Int32).toInt64)) - ((p2 &&& (7 : Int32)).toInt64))), .second] [(.ref b3)]))
    refine own_Fin.step (fun _ => XS.lload X42.here hx rfl (hb hby at_134) rfl) ?_
    show own_Fin p e below s _ _ _ (T42.setTop (mkF m 136 #[.val (.int p1), .val (.int p2), .val (.int p3), .val (.int (p3.toInt8.toInt32)), .val (.ref b1), .val (.ref b3), .val (.ref b10), .val (.ref b24), .val (.int (1 : Int32)), .val (.ref b3), .val (.long (((8 : Int64) * ((1 : Int32).toInt64)) - ((p2 &&& (7 : Int32)).toInt64))), .second] [(.long (((8 : Int64) * ((1 : Int32).toInt64)) - ((p2 &&& (7 : Int32)).toInt64))), (.ref b3)]))
    obtain ⟨_, T48, L48, X48, ⟨rfl, N48q, e48⟩, st48⟩ := own_callS X42 hx hZ hown (own_w hw 1 rfl) (own_w hw 2 rfl) (own_w hw 3 rfl) (own_w hw 4 rfl) (by decide) (rm2 l Z a0 hw b3 (((8 : Int64) * ((1 : Int32).toInt64)) - ((p2 &&& (7 : Int32)).toInt64)) k3 (1 : Int32) [(.int (p3.toInt8.toInt32))] (.int (0 : Int32)) h42 n0 Z42 f44 (own_g1 p2)) (by decide) (by decide) e42 (W := 0) (g := (mkF m 136 #[.val (.int p1), .val (.int p2), .val (.int p3), .val (.int (p3.toInt8.toInt32)), .val (.ref b1), .val (.ref b3), .val (.ref b10), .val (.ref b24), .val (.int (1 : Int32)), .val (.ref b3), .val (.long (((8 : Int64) * ((1 : Int32).toInt64)) - ((p2 &&& (7 : Int32)).toInt64))), .second] [(.long (((8 : Int64) * ((1 : Int32).toInt64)) - ((p2 &&& (7 : Int32)).toInt64))), (.ref b3)])) rfl (by rw [hml]; rfl) (argsL := [(.ref b3), (.long (((8 : Int64) * ((1 : Int32).toInt64)) - ((p2 &&& (7 : Int32)).toInt64)))]) (rest := []) (lenOf pd_1 rfl) rfl rfl (by show 2 * 0 + _ ≤ _; exact Nat.le_of_eq rfl) (hb hby at_136) (by decide) (by decide)
    have N48 := Fr.app N42 N48q
    refine own_Fin.step st48 ?_
    show own_Fin p e below s _ _ _ (T48.setTop (mkF m 139 #[.val (.int p1), .val (.int p2), .val (.int p3), .val (.int (p3.toInt8.toInt32)), .val (.ref b1), .val (.ref b3), .val (.ref b10), .val (.ref b24), .val (.int (1 : Int32)), .val (.ref b3), .val (.long (((8 : Int64) * ((1 : Int32).toInt64)) - ((p2 &&& (7 : Int32)).toInt64))), .second] []))
    refine own_Fin.step (fun _ => XS.iconst X48.here hx rfl (hb hby at_139)) ?_
    show own_Fin p e below s _ _ _ (T48.setTop (mkF m 140 #[.val (.int p1), .val (.int p2), .val (.int p3), .val (.int (p3.toInt8.toInt32)), .val (.ref b1), .val (.ref b3), .val (.ref b10), .val (.ref b24), .val (.int (1 : Int32)), .val (.ref b3), .val (.long (((8 : Int64) * ((1 : Int32).toInt64)) - ((p2 &&& (7 : Int32)).toInt64))), .second] [(.int (1 : Int32))]))
    exact own_retN X48 hx hlk (t := .boolean) hret (by simp) (hb hby at_140) ⟨rfl, N48⟩ (by decide) (by decide)
  ·
    show own_Fin p e below s _ _ _ (T42.setTop (mkF m 62 #[.val (.int p1), .val (.int p2), .val (.int p3), .val (.int (p3.toInt8.toInt32)), .val (.ref b1), .val (.ref b3), .val (.ref b10), .val (.ref b24), .unset, .unset, .unset, .unset] [(.int (2 : Int32))]))
    refine own_Fin.step (fun _ => XS.istore X42.here hx rfl (hb hby at_62) rfl (l' := #[.val (.int p1), .val (.int p2), .val (.int p3), .val (.int (p3.toInt8.toInt32)), .val (.ref b1), .val (.ref b3), .val (.ref b10), .val (.ref b24), .val (.int (2 : Int32)), .unset, .unset, .unset]) rfl) ?_
    show own_Fin p e below s _ _ _ (T42.setTop (mkF m 64 #[.val (.int p1), .val (.int p2), .val (.int p3), .val (.int (p3.toInt8.toInt32)), .val (.ref b1), .val (.ref b3), .val (.ref b10), .val (.ref b24), .val (.int (2 : Int32)), .unset, .unset, .unset] []))
    refine own_Fin.step (fun _ => XS.iload X42.here hx rfl (hb hby at_64) rfl) ?_
    show own_Fin p e below s _ _ _ (T42.setTop (mkF m 66 #[.val (.int p1), .val (.int p2), .val (.int p3), .val (.int (p3.toInt8.toInt32)), .val (.ref b1), .val (.ref b3), .val (.ref b10), .val (.ref b24), .val (.int (2 : Int32)), .unset, .unset, .unset] [(.int (2 : Int32))]))
    refine own_Fin.step (fun _ => XS.ifYes X42.here hx rfl (pc0 := 66) (pc' := 76) rfl (hb hby at_66) rfl (XT.i0_ne_t (by decide : ¬ ((2 : Int32) = (0 : Int32)))) (by decide) (by decide)) ?_
    show own_Fin p e below s _ _ _ (T42.setTop (mkF m 76 #[.val (.int p1), .val (.int p2), .val (.int p3), .val (.int (p3.toInt8.toInt32)), .val (.ref b1), .val (.ref b3), .val (.ref b10), .val (.ref b24), .val (.int (2 : Int32)), .unset, .unset, .unset] []))
    refine own_Fin.step (fun _ => XS.iload X42.here hx rfl (hb hby at_76) rfl) ?_
    show own_Fin p e below s _ _ _ (T42.setTop (mkF m 78 #[.val (.int p1), .val (.int p2), .val (.int p3), .val (.int (p3.toInt8.toInt32)), .val (.ref b1), .val (.ref b3), .val (.ref b10), .val (.ref b24), .val (.int (2 : Int32)), .unset, .unset, .unset] [(.int (2 : Int32))]))
    refine own_Fin.step (fun _ => XS.iconst X42.here hx rfl (hb hby at_78)) ?_
    show own_Fin p e below s _ _ _ (T42.setTop (mkF m 79 #[.val (.int p1), .val (.int p2), .val (.int p3), .val (.int (p3.toInt8.toInt32)), .val (.ref b1), .val (.ref b3), .val (.ref b10), .val (.ref b24), .val (.int (2 : Int32)), .unset, .unset, .unset] [(.int (1 : Int32)), (.int (2 : Int32))]))
    refine own_Fin.step (fun _ => XS.icmpYes X42.here hx rfl (pc0 := 79) (pc' := 89) rfl (hb hby at_79) rfl (XT.ii_ne_t (by decide : ¬ ((2 : Int32) = (1 : Int32)))) (by decide) (by decide)) ?_
    show own_Fin p e below s _ _ _ (T42.setTop (mkF m 89 #[.val (.int p1), .val (.int p2), .val (.int p3), .val (.int (p3.toInt8.toInt32)), .val (.ref b1), .val (.ref b3), .val (.ref b10), .val (.ref b24), .val (.int (2 : Int32)), .unset, .unset, .unset] []))
    refine own_Fin.step (fun _ => XS.iload X42.here hx rfl (hb hby at_89) rfl) ?_
    show own_Fin p e below s _ _ _ (T42.setTop (mkF m 91 #[.val (.int p1), .val (.int p2), .val (.int p3), .val (.int (p3.toInt8.toInt32)), .val (.ref b1), .val (.ref b3), .val (.ref b10), .val (.ref b24), .val (.int (2 : Int32)), .unset, .unset, .unset] [(.int (2 : Int32))]))
    refine own_Fin.step (fun _ => XS.iconst X42.here hx rfl (hb hby at_91)) ?_
    show own_Fin p e below s _ _ _ (T42.setTop (mkF m 92 #[.val (.int p1), .val (.int p2), .val (.int p3), .val (.int (p3.toInt8.toInt32)), .val (.ref b1), .val (.ref b3), .val (.ref b10), .val (.ref b24), .val (.int (2 : Int32)), .unset, .unset, .unset] [(.int (2 : Int32)), (.int (2 : Int32))]))
    refine own_Fin.step (fun _ => XS.icmpNo X42.here hx rfl (hb hby at_92) rfl (XT.ii_ne_f (by decide : (2 : Int32) = (2 : Int32)))) ?_
    show own_Fin p e below s _ _ _ (T42.setTop (mkF m 95 #[.val (.int p1), .val (.int p2), .val (.int p3), .val (.int (p3.toInt8.toInt32)), .val (.ref b1), .val (.ref b3), .val (.ref b10), .val (.ref b24), .val (.int (2 : Int32)), .unset, .unset, .unset] []))
    refine own_Fin.step (fun _ => XS.aload X42.here hx rfl (hb hby at_95) rfl rfl) ?_
    show own_Fin p e below s _ _ _ (T42.setTop (mkF m 97 #[.val (.int p1), .val (.int p2), .val (.int p3), .val (.int (p3.toInt8.toInt32)), .val (.ref b1), .val (.ref b3), .val (.ref b10), .val (.ref b24), .val (.int (2 : Int32)), .unset, .unset, .unset] [(.ref b10)]))
    refine own_Fin.step (fun _ => XS.astore X42.here hx rfl (hb hby at_97) rfl rfl (l' := #[.val (.int p1), .val (.int p2), .val (.int p3), .val (.int (p3.toInt8.toInt32)), .val (.ref b1), .val (.ref b3), .val (.ref b10), .val (.ref b24), .val (.int (2 : Int32)), .val (.ref b10), .unset, .unset]) rfl) ?_
    show own_Fin p e below s _ _ _ (T42.setTop (mkF m 99 #[.val (.int p1), .val (.int p2), .val (.int p3), .val (.int (p3.toInt8.toInt32)), .val (.ref b1), .val (.ref b3), .val (.ref b10), .val (.ref b24), .val (.int (2 : Int32)), .val (.ref b10), .unset, .unset] []))
    refine own_Fin.step (fun _ => XS.goto X42.here hx rfl (pc0 := 99) (pc' := 106) rfl (hb hby at_99) (by decide) (by decide)) ?_
    show own_Fin p e below s _ _ _ (T42.setTop (mkF m 106 #[.val (.int p1), .val (.int p2), .val (.int p3), .val (.int (p3.toInt8.toInt32)), .val (.ref b1), .val (.ref b3), .val (.ref b10), .val (.ref b24), .val (.int (2 : Int32)), .val (.ref b10), .unset, .unset] []))
    refine own_Fin.step (fun _ => XS.iload X42.here hx rfl (hb hby at_106) rfl) ?_
    show own_Fin p e below s _ _ _ (T42.setTop (mkF m 108 #[.val (.int p1), .val (.int p2), .val (.int p3), .val (.int (p3.toInt8.toInt32)), .val (.ref b1), .val (.ref b3), .val (.ref b10), .val (.ref b24), .val (.int (2 : Int32)), .val (.ref b10), .unset, .unset] [(.int (2 : Int32))]))
    refine own_Fin.step (fun _ => XS.ifYes X42.here hx rfl (pc0 := 108) (pc' := 117) rfl (hb hby at_108) rfl (XT.i0_ne_t (by decide : ¬ ((2 : Int32) = (0 : Int32)))) (by decide) (by decide)) ?_
    show own_Fin p e below s _ _ _ (T42.setTop (mkF m 117 #[.val (.int p1), .val (.int p2), .val (.int p3), .val (.int (p3.toInt8.toInt32)), .val (.ref b1), .val (.ref b3), .val (.ref b10), .val (.ref b24), .val (.int (2 : Int32)), .val (.ref b10), .unset, .unset] []))
    refine own_Fin.step (X42.ldc2Long hx hown (mvT hZ (own_w hw 10 rfl)) (g := (mkF m 117 #[.val (.int p1), .val (.int p2), .val (.int p3), .val (.int (p3.toInt8.toInt32)), .val (.ref b1), .val (.ref b3), .val (.ref b10), .val (.ref b24), .val (.int (2 : Int32)), .val (.ref b10), .unset, .unset] [])) rfl (hb hby at_117)) ?_
    show own_Fin p e below s _ _ _ (T42.setTop (mkF m 120 #[.val (.int p1), .val (.int p2), .val (.int p3), .val (.int (p3.toInt8.toInt32)), .val (.ref b1), .val (.ref b3), .val (.ref b10), .val (.ref b24), .val (.int (2 : Int32)), .val (.ref b10), .unset, .unset] [(.long (8 : Int64))]))
    refine own_Fin.step (fun _ => XS.iload X42.here hx rfl (hb hby at_120) rfl) ?_
    show own_Fin p e below s _ _ _ (T42.setTop (mkF m 122 #[.val (.int p1), .val (.int p2), .val (.int p3), .val (.int (p3.toInt8.toInt32)), .val (.ref b1), .val (.ref b3), .val (.ref b10), .val (.ref b24), .val (.int (2 : Int32)), .val (.ref b10), .unset, .unset] [(.int (2 : Int32)), (.long (8 : Int64))]))
    refine own_Fin.step (fun _ => XS.i2l X42.here hx rfl (hb hby at_122) rfl) ?_
    show own_Fin p e below s _ _ _ (T42.setTop (mkF m 123 #[.val (.int p1), .val (.int p2), .val (.int p3), .val (.int (p3.toInt8.toInt32)), .val (.ref b1), .val (.ref b3), .val (.ref b10), .val (.ref b24), .val (.int (2 : Int32)), .val (.ref b10), .unset, .unset] [(.long ((2 : Int32).toInt64)), (.long (8 : Int64))]))
    refine own_Fin.step (fun _ => XS.lmul X42.here hx rfl (hb hby at_123) rfl) ?_
    show own_Fin p e below s _ _ _ (T42.setTop (mkF m 124 #[.val (.int p1), .val (.int p2), .val (.int p3), .val (.int (p3.toInt8.toInt32)), .val (.ref b1), .val (.ref b3), .val (.ref b10), .val (.ref b24), .val (.int (2 : Int32)), .val (.ref b10), .unset, .unset] [(.long ((8 : Int64) * ((2 : Int32).toInt64)))]))
    refine own_Fin.step (fun _ => XS.iloadN X42.here hx rfl (hb hby at_124) rfl) ?_
    show own_Fin p e below s _ _ _ (T42.setTop (mkF m 125 #[.val (.int p1), .val (.int p2), .val (.int p3), .val (.int (p3.toInt8.toInt32)), .val (.ref b1), .val (.ref b3), .val (.ref b10), .val (.ref b24), .val (.int (2 : Int32)), .val (.ref b10), .unset, .unset] [(.int p2), (.long ((8 : Int64) * ((2 : Int32).toInt64)))]))
    refine own_Fin.step (fun _ => XS.bipush X42.here hx rfl (hb hby at_125)) ?_
    show own_Fin p e below s _ _ _ (T42.setTop (mkF m 127 #[.val (.int p1), .val (.int p2), .val (.int p3), .val (.int (p3.toInt8.toInt32)), .val (.ref b1), .val (.ref b3), .val (.ref b10), .val (.ref b24), .val (.int (2 : Int32)), .val (.ref b10), .unset, .unset] [(.int (7 : Int32)), (.int p2), (.long ((8 : Int64) * ((2 : Int32).toInt64)))]))
    refine own_Fin.step (fun _ => XS.iand X42.here hx rfl (hb hby at_127) rfl) ?_
    show own_Fin p e below s _ _ _ (T42.setTop (mkF m 128 #[.val (.int p1), .val (.int p2), .val (.int p3), .val (.int (p3.toInt8.toInt32)), .val (.ref b1), .val (.ref b3), .val (.ref b10), .val (.ref b24), .val (.int (2 : Int32)), .val (.ref b10), .unset, .unset] [(.int (p2 &&& (7 : Int32))), (.long ((8 : Int64) * ((2 : Int32).toInt64)))]))
    refine own_Fin.step (fun _ => XS.i2l X42.here hx rfl (hb hby at_128) rfl) ?_
    show own_Fin p e below s _ _ _ (T42.setTop (mkF m 129 #[.val (.int p1), .val (.int p2), .val (.int p3), .val (.int (p3.toInt8.toInt32)), .val (.ref b1), .val (.ref b3), .val (.ref b10), .val (.ref b24), .val (.int (2 : Int32)), .val (.ref b10), .unset, .unset] [(.long ((p2 &&& (7 : Int32)).toInt64)), (.long ((8 : Int64) * ((2 : Int32).toInt64)))]))
    refine own_Fin.step (fun _ => XS.lsub X42.here hx rfl (hb hby at_129) rfl) ?_
    show own_Fin p e below s _ _ _ (T42.setTop (mkF m 130 #[.val (.int p1), .val (.int p2), .val (.int p3), .val (.int (p3.toInt8.toInt32)), .val (.ref b1), .val (.ref b3), .val (.ref b10), .val (.ref b24), .val (.int (2 : Int32)), .val (.ref b10), .unset, .unset] [(.long (((8 : Int64) * ((2 : Int32).toInt64)) - ((p2 &&& (7 : Int32)).toInt64)))]))
    refine own_Fin.step (fun _ => XS.lstore X42.here hx rfl (hb hby at_130) rfl (l' := #[.val (.int p1), .val (.int p2), .val (.int p3), .val (.int (p3.toInt8.toInt32)), .val (.ref b1), .val (.ref b3), .val (.ref b10), .val (.ref b24), .val (.int (2 : Int32)), .val (.ref b10), .val (.long (((8 : Int64) * ((2 : Int32).toInt64)) - ((p2 &&& (7 : Int32)).toInt64))), .second]) rfl) ?_
    show own_Fin p e below s _ _ _ (T42.setTop (mkF m 132 #[.val (.int p1), .val (.int p2), .val (.int p3), .val (.int (p3.toInt8.toInt32)), .val (.ref b1), .val (.ref b3), .val (.ref b10), .val (.ref b24), .val (.int (2 : Int32)), .val (.ref b10), .val (.long (((8 : Int64) * ((2 : Int32).toInt64)) - ((p2 &&& (7 : Int32)).toInt64))), .second] []))
    refine own_Fin.step (fun _ => XS.aload X42.here hx rfl (hb hby at_132) rfl rfl) ?_
    show own_Fin p e below s _ _ _ (T42.setTop (mkF m 134 #[.val (.int p1), .val (.int p2), .val (.int p3), .val (.int (p3.toInt8.toInt32)), .val (.ref b1), .val (.ref b3), .val (.ref b10), .val (.ref b24), .val (.int (2 : Int32)), .val (.ref b10), .val (.long (((8 : Int64) * ((2 : Int32).toInt64)) - ((p2 &&& (7 : Int32)).toInt64))), .second] [(.ref b10)]))
    refine own_Fin.step (fun _ => XS.lload X42.here hx rfl (hb hby at_134) rfl) ?_
    show own_Fin p e below s _ _ _ (T42.setTop (mkF m 136 #[.val (.int p1), .val (.int p2), .val (.int p3), .val (.int (p3.toInt8.toInt32)), .val (.ref b1), .val (.ref b3), .val (.ref b10), .val (.ref b24), .val (.int (2 : Int32)), .val (.ref b10), .val (.long (((8 : Int64) * ((2 : Int32).toInt64)) - ((p2 &&& (7 : Int32)).toInt64))), .second] [(.long (((8 : Int64) * ((2 : Int32).toInt64)) - ((p2 &&& (7 : Int32)).toInt64))), (.ref b10)]))
    obtain ⟨_, T49, L49, X49, ⟨rfl, N49q, e49⟩, st49⟩ := own_callS X42 hx hZ hown (own_w hw 1 rfl) (own_w hw 2 rfl) (own_w hw 3 rfl) (own_w hw 4 rfl) (by decide) (rm2 l Z a0 hw b10 (((8 : Int64) * ((2 : Int32).toInt64)) - ((p2 &&& (7 : Int32)).toInt64)) k10 (2 : Int32) [(.int (p3.toInt8.toInt32)), (.int (((p3.toUInt32 >>> ((8 : Int32) &&& 31).toUInt32).toInt32).toInt8.toInt32))] (.int (0 : Int32)) h42 n0 Z42 f45 (own_g2 p2)) (by decide) (by decide) e42 (W := 0) (g := (mkF m 136 #[.val (.int p1), .val (.int p2), .val (.int p3), .val (.int (p3.toInt8.toInt32)), .val (.ref b1), .val (.ref b3), .val (.ref b10), .val (.ref b24), .val (.int (2 : Int32)), .val (.ref b10), .val (.long (((8 : Int64) * ((2 : Int32).toInt64)) - ((p2 &&& (7 : Int32)).toInt64))), .second] [(.long (((8 : Int64) * ((2 : Int32).toInt64)) - ((p2 &&& (7 : Int32)).toInt64))), (.ref b10)])) rfl (by rw [hml]; rfl) (argsL := [(.ref b10), (.long (((8 : Int64) * ((2 : Int32).toInt64)) - ((p2 &&& (7 : Int32)).toInt64)))]) (rest := []) (lenOf pd_1 rfl) rfl rfl (by show 2 * 0 + _ ≤ _; exact Nat.le_of_eq rfl) (hb hby at_136) (by decide) (by decide)
    have N49 := Fr.app N42 N49q
    refine own_Fin.step st49 ?_
    show own_Fin p e below s _ _ _ (T49.setTop (mkF m 139 #[.val (.int p1), .val (.int p2), .val (.int p3), .val (.int (p3.toInt8.toInt32)), .val (.ref b1), .val (.ref b3), .val (.ref b10), .val (.ref b24), .val (.int (2 : Int32)), .val (.ref b10), .val (.long (((8 : Int64) * ((2 : Int32).toInt64)) - ((p2 &&& (7 : Int32)).toInt64))), .second] []))
    refine own_Fin.step (fun _ => XS.iconst X49.here hx rfl (hb hby at_139)) ?_
    show own_Fin p e below s _ _ _ (T49.setTop (mkF m 140 #[.val (.int p1), .val (.int p2), .val (.int p3), .val (.int (p3.toInt8.toInt32)), .val (.ref b1), .val (.ref b3), .val (.ref b10), .val (.ref b24), .val (.int (2 : Int32)), .val (.ref b10), .val (.long (((8 : Int64) * ((2 : Int32).toInt64)) - ((p2 &&& (7 : Int32)).toInt64))), .second] [(.int (1 : Int32))]))
    exact own_retN X49 hx hlk (t := .boolean) hret (by simp) (hb hby at_140) ⟨rfl, N49⟩ (by decide) (by decide)
  ·
    show own_Fin p e below s _ _ _ (T42.setTop (mkF m 62 #[.val (.int p1), .val (.int p2), .val (.int p3), .val (.int (p3.toInt8.toInt32)), .val (.ref b1), .val (.ref b3), .val (.ref b10), .val (.ref b24), .unset, .unset, .unset, .unset] [(.int (3 : Int32))]))
    refine own_Fin.step (fun _ => XS.istore X42.here hx rfl (hb hby at_62) rfl (l' := #[.val (.int p1), .val (.int p2), .val (.int p3), .val (.int (p3.toInt8.toInt32)), .val (.ref b1), .val (.ref b3), .val (.ref b10), .val (.ref b24), .val (.int (3 : Int32)), .unset, .unset, .unset]) rfl) ?_
    show own_Fin p e below s _ _ _ (T42.setTop (mkF m 64 #[.val (.int p1), .val (.int p2), .val (.int p3), .val (.int (p3.toInt8.toInt32)), .val (.ref b1), .val (.ref b3), .val (.ref b10), .val (.ref b24), .val (.int (3 : Int32)), .unset, .unset, .unset] []))
    refine own_Fin.step (fun _ => XS.iload X42.here hx rfl (hb hby at_64) rfl) ?_
    show own_Fin p e below s _ _ _ (T42.setTop (mkF m 66 #[.val (.int p1), .val (.int p2), .val (.int p3), .val (.int (p3.toInt8.toInt32)), .val (.ref b1), .val (.ref b3), .val (.ref b10), .val (.ref b24), .val (.int (3 : Int32)), .unset, .unset, .unset] [(.int (3 : Int32))]))
    refine own_Fin.step (fun _ => XS.ifYes X42.here hx rfl (pc0 := 66) (pc' := 76) rfl (hb hby at_66) rfl (XT.i0_ne_t (by decide : ¬ ((3 : Int32) = (0 : Int32)))) (by decide) (by decide)) ?_
    show own_Fin p e below s _ _ _ (T42.setTop (mkF m 76 #[.val (.int p1), .val (.int p2), .val (.int p3), .val (.int (p3.toInt8.toInt32)), .val (.ref b1), .val (.ref b3), .val (.ref b10), .val (.ref b24), .val (.int (3 : Int32)), .unset, .unset, .unset] []))
    refine own_Fin.step (fun _ => XS.iload X42.here hx rfl (hb hby at_76) rfl) ?_
    show own_Fin p e below s _ _ _ (T42.setTop (mkF m 78 #[.val (.int p1), .val (.int p2), .val (.int p3), .val (.int (p3.toInt8.toInt32)), .val (.ref b1), .val (.ref b3), .val (.ref b10), .val (.ref b24), .val (.int (3 : Int32)), .unset, .unset, .unset] [(.int (3 : Int32))]))
    refine own_Fin.step (fun _ => XS.iconst X42.here hx rfl (hb hby at_78)) ?_
    show own_Fin p e below s _ _ _ (T42.setTop (mkF m 79 #[.val (.int p1), .val (.int p2), .val (.int p3), .val (.int (p3.toInt8.toInt32)), .val (.ref b1), .val (.ref b3), .val (.ref b10), .val (.ref b24), .val (.int (3 : Int32)), .unset, .unset, .unset] [(.int (1 : Int32)), (.int (3 : Int32))]))
    refine own_Fin.step (fun _ => XS.icmpYes X42.here hx rfl (pc0 := 79) (pc' := 89) rfl (hb hby at_79) rfl (XT.ii_ne_t (by decide : ¬ ((3 : Int32) = (1 : Int32)))) (by decide) (by decide)) ?_
    show own_Fin p e below s _ _ _ (T42.setTop (mkF m 89 #[.val (.int p1), .val (.int p2), .val (.int p3), .val (.int (p3.toInt8.toInt32)), .val (.ref b1), .val (.ref b3), .val (.ref b10), .val (.ref b24), .val (.int (3 : Int32)), .unset, .unset, .unset] []))
    refine own_Fin.step (fun _ => XS.iload X42.here hx rfl (hb hby at_89) rfl) ?_
    show own_Fin p e below s _ _ _ (T42.setTop (mkF m 91 #[.val (.int p1), .val (.int p2), .val (.int p3), .val (.int (p3.toInt8.toInt32)), .val (.ref b1), .val (.ref b3), .val (.ref b10), .val (.ref b24), .val (.int (3 : Int32)), .unset, .unset, .unset] [(.int (3 : Int32))]))
    refine own_Fin.step (fun _ => XS.iconst X42.here hx rfl (hb hby at_91)) ?_
    show own_Fin p e below s _ _ _ (T42.setTop (mkF m 92 #[.val (.int p1), .val (.int p2), .val (.int p3), .val (.int (p3.toInt8.toInt32)), .val (.ref b1), .val (.ref b3), .val (.ref b10), .val (.ref b24), .val (.int (3 : Int32)), .unset, .unset, .unset] [(.int (2 : Int32)), (.int (3 : Int32))]))
    refine own_Fin.step (fun _ => XS.icmpYes X42.here hx rfl (pc0 := 92) (pc' := 102) rfl (hb hby at_92) rfl (XT.ii_ne_t (by decide : ¬ ((3 : Int32) = (2 : Int32)))) (by decide) (by decide)) ?_
    show own_Fin p e below s _ _ _ (T42.setTop (mkF m 102 #[.val (.int p1), .val (.int p2), .val (.int p3), .val (.int (p3.toInt8.toInt32)), .val (.ref b1), .val (.ref b3), .val (.ref b10), .val (.ref b24), .val (.int (3 : Int32)), .unset, .unset, .unset] []))
    refine own_Fin.step (fun _ => XS.aload X42.here hx rfl (hb hby at_102) rfl rfl) ?_
    show own_Fin p e below s _ _ _ (T42.setTop (mkF m 104 #[.val (.int p1), .val (.int p2), .val (.int p3), .val (.int (p3.toInt8.toInt32)), .val (.ref b1), .val (.ref b3), .val (.ref b10), .val (.ref b24), .val (.int (3 : Int32)), .unset, .unset, .unset] [(.ref b24)]))
    refine own_Fin.step (fun _ => XS.astore X42.here hx rfl (hb hby at_104) rfl rfl (l' := #[.val (.int p1), .val (.int p2), .val (.int p3), .val (.int (p3.toInt8.toInt32)), .val (.ref b1), .val (.ref b3), .val (.ref b10), .val (.ref b24), .val (.int (3 : Int32)), .val (.ref b24), .unset, .unset]) rfl) ?_
    show own_Fin p e below s _ _ _ (T42.setTop (mkF m 106 #[.val (.int p1), .val (.int p2), .val (.int p3), .val (.int (p3.toInt8.toInt32)), .val (.ref b1), .val (.ref b3), .val (.ref b10), .val (.ref b24), .val (.int (3 : Int32)), .val (.ref b24), .unset, .unset] []))
    refine own_Fin.step (fun _ => XS.iload X42.here hx rfl (hb hby at_106) rfl) ?_
    show own_Fin p e below s _ _ _ (T42.setTop (mkF m 108 #[.val (.int p1), .val (.int p2), .val (.int p3), .val (.int (p3.toInt8.toInt32)), .val (.ref b1), .val (.ref b3), .val (.ref b10), .val (.ref b24), .val (.int (3 : Int32)), .val (.ref b24), .unset, .unset] [(.int (3 : Int32))]))
    refine own_Fin.step (fun _ => XS.ifYes X42.here hx rfl (pc0 := 108) (pc' := 117) rfl (hb hby at_108) rfl (XT.i0_ne_t (by decide : ¬ ((3 : Int32) = (0 : Int32)))) (by decide) (by decide)) ?_
    show own_Fin p e below s _ _ _ (T42.setTop (mkF m 117 #[.val (.int p1), .val (.int p2), .val (.int p3), .val (.int (p3.toInt8.toInt32)), .val (.ref b1), .val (.ref b3), .val (.ref b10), .val (.ref b24), .val (.int (3 : Int32)), .val (.ref b24), .unset, .unset] []))
    refine own_Fin.step (X42.ldc2Long hx hown (mvT hZ (own_w hw 10 rfl)) (g := (mkF m 117 #[.val (.int p1), .val (.int p2), .val (.int p3), .val (.int (p3.toInt8.toInt32)), .val (.ref b1), .val (.ref b3), .val (.ref b10), .val (.ref b24), .val (.int (3 : Int32)), .val (.ref b24), .unset, .unset] [])) rfl (hb hby at_117)) ?_
    show own_Fin p e below s _ _ _ (T42.setTop (mkF m 120 #[.val (.int p1), .val (.int p2), .val (.int p3), .val (.int (p3.toInt8.toInt32)), .val (.ref b1), .val (.ref b3), .val (.ref b10), .val (.ref b24), .val (.int (3 : Int32)), .val (.ref b24), .unset, .unset] [(.long (8 : Int64))]))
    refine own_Fin.step (fun _ => XS.iload X42.here hx rfl (hb hby at_120) rfl) ?_
    show own_Fin p e below s _ _ _ (T42.setTop (mkF m 122 #[.val (.int p1), .val (.int p2), .val (.int p3), .val (.int (p3.toInt8.toInt32)), .val (.ref b1), .val (.ref b3), .val (.ref b10), .val (.ref b24), .val (.int (3 : Int32)), .val (.ref b24), .unset, .unset] [(.int (3 : Int32)), (.long (8 : Int64))]))
    refine own_Fin.step (fun _ => XS.i2l X42.here hx rfl (hb hby at_122) rfl) ?_
    show own_Fin p e below s _ _ _ (T42.setTop (mkF m 123 #[.val (.int p1), .val (.int p2), .val (.int p3), .val (.int (p3.toInt8.toInt32)), .val (.ref b1), .val (.ref b3), .val (.ref b10), .val (.ref b24), .val (.int (3 : Int32)), .val (.ref b24), .unset, .unset] [(.long ((3 : Int32).toInt64)), (.long (8 : Int64))]))
    refine own_Fin.step (fun _ => XS.lmul X42.here hx rfl (hb hby at_123) rfl) ?_
    show own_Fin p e below s _ _ _ (T42.setTop (mkF m 124 #[.val (.int p1), .val (.int p2), .val (.int p3), .val (.int (p3.toInt8.toInt32)), .val (.ref b1), .val (.ref b3), .val (.ref b10), .val (.ref b24), .val (.int (3 : Int32)), .val (.ref b24), .unset, .unset] [(.long ((8 : Int64) * ((3 : Int32).toInt64)))]))
    refine own_Fin.step (fun _ => XS.iloadN X42.here hx rfl (hb hby at_124) rfl) ?_
    show own_Fin p e below s _ _ _ (T42.setTop (mkF m 125 #[.val (.int p1), .val (.int p2), .val (.int p3), .val (.int (p3.toInt8.toInt32)), .val (.ref b1), .val (.ref b3), .val (.ref b10), .val (.ref b24), .val (.int (3 : Int32)), .val (.ref b24), .unset, .unset] [(.int p2), (.long ((8 : Int64) * ((3 : Int32).toInt64)))]))
    refine own_Fin.step (fun _ => XS.bipush X42.here hx rfl (hb hby at_125)) ?_
    show own_Fin p e below s _ _ _ (T42.setTop (mkF m 127 #[.val (.int p1), .val (.int p2), .val (.int p3), .val (.int (p3.toInt8.toInt32)), .val (.ref b1), .val (.ref b3), .val (.ref b10), .val (.ref b24), .val (.int (3 : Int32)), .val (.ref b24), .unset, .unset] [(.int (7 : Int32)), (.int p2), (.long ((8 : Int64) * ((3 : Int32).toInt64)))]))
    refine own_Fin.step (fun _ => XS.iand X42.here hx rfl (hb hby at_127) rfl) ?_
    show own_Fin p e below s _ _ _ (T42.setTop (mkF m 128 #[.val (.int p1), .val (.int p2), .val (.int p3), .val (.int (p3.toInt8.toInt32)), .val (.ref b1), .val (.ref b3), .val (.ref b10), .val (.ref b24), .val (.int (3 : Int32)), .val (.ref b24), .unset, .unset] [(.int (p2 &&& (7 : Int32))), (.long ((8 : Int64) * ((3 : Int32).toInt64)))]))
    refine own_Fin.step (fun _ => XS.i2l X42.here hx rfl (hb hby at_128) rfl) ?_
    show own_Fin p e below s _ _ _ (T42.setTop (mkF m 129 #[.val (.int p1), .val (.int p2), .val (.int p3), .val (.int (p3.toInt8.toInt32)), .val (.ref b1), .val (.ref b3), .val (.ref b10), .val (.ref b24), .val (.int (3 : Int32)), .val (.ref b24), .unset, .unset] [(.long ((p2 &&& (7 : Int32)).toInt64)), (.long ((8 : Int64) * ((3 : Int32).toInt64)))]))
    refine own_Fin.step (fun _ => XS.lsub X42.here hx rfl (hb hby at_129) rfl) ?_
    show own_Fin p e below s _ _ _ (T42.setTop (mkF m 130 #[.val (.int p1), .val (.int p2), .val (.int p3), .val (.int (p3.toInt8.toInt32)), .val (.ref b1), .val (.ref b3), .val (.ref b10), .val (.ref b24), .val (.int (3 : Int32)), .val (.ref b24), .unset, .unset] [(.long (((8 : Int64) * ((3 : Int32).toInt64)) - ((p2 &&& (7 : Int32)).toInt64)))]))
    refine own_Fin.step (fun _ => XS.lstore X42.here hx rfl (hb hby at_130) rfl (l' := #[.val (.int p1), .val (.int p2), .val (.int p3), .val (.int (p3.toInt8.toInt32)), .val (.ref b1), .val (.ref b3), .val (.ref b10), .val (.ref b24), .val (.int (3 : Int32)), .val (.ref b24), .val (.long (((8 : Int64) * ((3 : Int32).toInt64)) - ((p2 &&& (7 : Int32)).toInt64))), .second]) rfl) ?_
    show own_Fin p e below s _ _ _ (T42.setTop (mkF m 132 #[.val (.int p1), .val (.int p2), .val (.int p3), .val (.int (p3.toInt8.toInt32)), .val (.ref b1), .val (.ref b3), .val (.ref b10), .val (.ref b24), .val (.int (3 : Int32)), .val (.ref b24), .val (.long (((8 : Int64) * ((3 : Int32).toInt64)) - ((p2 &&& (7 : Int32)).toInt64))), .second] []))
    refine own_Fin.step (fun _ => XS.aload X42.here hx rfl (hb hby at_132) rfl rfl) ?_
    show own_Fin p e below s _ _ _ (T42.setTop (mkF m 134 #[.val (.int p1), .val (.int p2), .val (.int p3), .val (.int (p3.toInt8.toInt32)), .val (.ref b1), .val (.ref b3), .val (.ref b10), .val (.ref b24), .val (.int (3 : Int32)), .val (.ref b24), .val (.long (((8 : Int64) * ((3 : Int32).toInt64)) - ((p2 &&& (7 : Int32)).toInt64))), .second] [(.ref b24)]))
    refine own_Fin.step (fun _ => XS.lload X42.here hx rfl (hb hby at_134) rfl) ?_
    show own_Fin p e below s _ _ _ (T42.setTop (mkF m 136 #[.val (.int p1), .val (.int p2), .val (.int p3), .val (.int (p3.toInt8.toInt32)), .val (.ref b1), .val (.ref b3), .val (.ref b10), .val (.ref b24), .val (.int (3 : Int32)), .val (.ref b24), .val (.long (((8 : Int64) * ((3 : Int32).toInt64)) - ((p2 &&& (7 : Int32)).toInt64))), .second] [(.long (((8 : Int64) * ((3 : Int32).toInt64)) - ((p2 &&& (7 : Int32)).toInt64))), (.ref b24)]))
    obtain ⟨_, T50, L50, X50, ⟨rfl, N50q, e50⟩, st50⟩ := own_callS X42 hx hZ hown (own_w hw 1 rfl) (own_w hw 2 rfl) (own_w hw 3 rfl) (own_w hw 4 rfl) (by decide) (rm2 l Z a0 hw b24 (((8 : Int64) * ((3 : Int32).toInt64)) - ((p2 &&& (7 : Int32)).toInt64)) k24 (3 : Int32) [(.int (p3.toInt8.toInt32)), (.int (((p3.toUInt32 >>> ((8 : Int32) &&& 31).toUInt32).toInt32).toInt8.toInt32)), (.int (((p3.toUInt32 >>> ((16 : Int32) &&& 31).toUInt32).toInt32).toInt8.toInt32))] (.int (0 : Int32)) h42 n0 Z42 V42' (own_g3 p2)) (by decide) (by decide) e42 (W := 0) (g := (mkF m 136 #[.val (.int p1), .val (.int p2), .val (.int p3), .val (.int (p3.toInt8.toInt32)), .val (.ref b1), .val (.ref b3), .val (.ref b10), .val (.ref b24), .val (.int (3 : Int32)), .val (.ref b24), .val (.long (((8 : Int64) * ((3 : Int32).toInt64)) - ((p2 &&& (7 : Int32)).toInt64))), .second] [(.long (((8 : Int64) * ((3 : Int32).toInt64)) - ((p2 &&& (7 : Int32)).toInt64))), (.ref b24)])) rfl (by rw [hml]; rfl) (argsL := [(.ref b24), (.long (((8 : Int64) * ((3 : Int32).toInt64)) - ((p2 &&& (7 : Int32)).toInt64)))]) (rest := []) (lenOf pd_1 rfl) rfl rfl (by show 2 * 0 + _ ≤ _; exact Nat.le_of_eq rfl) (hb hby at_136) (by decide) (by decide)
    have N50 := Fr.app N42 N50q
    refine own_Fin.step st50 ?_
    show own_Fin p e below s _ _ _ (T50.setTop (mkF m 139 #[.val (.int p1), .val (.int p2), .val (.int p3), .val (.int (p3.toInt8.toInt32)), .val (.ref b1), .val (.ref b3), .val (.ref b10), .val (.ref b24), .val (.int (3 : Int32)), .val (.ref b24), .val (.long (((8 : Int64) * ((3 : Int32).toInt64)) - ((p2 &&& (7 : Int32)).toInt64))), .second] []))
    refine own_Fin.step (fun _ => XS.iconst X50.here hx rfl (hb hby at_139)) ?_
    show own_Fin p e below s _ _ _ (T50.setTop (mkF m 140 #[.val (.int p1), .val (.int p2), .val (.int p3), .val (.int (p3.toInt8.toInt32)), .val (.ref b1), .val (.ref b3), .val (.ref b10), .val (.ref b24), .val (.int (3 : Int32)), .val (.ref b24), .val (.long (((8 : Int64) * ((3 : Int32).toInt64)) - ((p2 &&& (7 : Int32)).toInt64))), .second] [(.int (1 : Int32))]))
    exact own_retN X50 hx hlk (t := .boolean) hret (by simp) (hb hby at_140) ⟨rfl, N50⟩ (by decide) (by decide)
set_option maxRecDepth 65536 in
set_option maxHeartbeats 40000000 in
theorem comes_1 {Post : Tables → Env → Array Value → State → Outcome → State → Prop} (hpost : ∀ tb e args s v u, (limb_1_1.after args s (.returned v) u = true ∧ limb_1_2.after args s (.returned v) u = true ∧ True) → FrameEnd s (.returned v) u (Jvm.fieldLocs frame_1_writes args s ++ Jvm.arrayLocs frame_1_arrays args s ++ Jvm.staticLocs frame_1_statics s) 16 128 → Post tb e args s (.returned v) u) :
    ArmFor flags0 classFile x code maxLocals ret World_1 tables_1 room_1 Calls_1 rest_1 Pre_1 Post := by
  intro l hfl _ _ p e ha hc hk s m args below hf hA hF happ hP
  obtain ⟨hcalls, hrest, hpre⟩ := hP
  obtain ⟨-, -, -, hnamed, -, -, -, hat⟩ := (Spec.applies_iff hf).mp happ
  obtain ⟨hg, hn⟩ := and_e (Cond.before_iff.mp (show (Jvm.Cond.and given_1 narrow_1).before args s = true from hpre))
  obtain ⟨hcount, g0⟩ := and_e hg
  obtain ⟨a0, g1⟩ := and_e g0
  obtain ⟨a1, g2⟩ := and_e g1
  have a2 := g2
  obtain ⟨w0, w1, w2, rfl⟩ : ∃ w0 w1 w2 : Value, args = #[w0, w1, w2] := by
    have hs : args.size = 3 := by simpa [Cond.value, given_1] using hcount
    obtain ⟨L⟩ := args
    match L, hs with
    | [w0, w1, w2], _ => exact ⟨w0, w1, w2, rfl⟩
  have hw := fun d (hd : d ∈ tables_1) => atoms_spec (ws := Jvm.Cond.code x code maxLocals ret :: tables_1) hat d (List.mem_cons_of_mem _ hd)
  obtain ⟨i0, ei0⟩ := is_v a0
  obtain rfl : w0 = (.int i0) := Option.some.inj ei0
  obtain ⟨i1, ei1⟩ := is_v a1
  obtain rfl : w1 = (.int i1) := Option.some.inj ei1
  obtain ⟨i2, ei2⟩ := is_v a2
  obtain rfl : w2 = (.int i2) := Option.some.inj ei2
  obtain ⟨n, o, h1, h2, h3, _, L, rfl, ⟨rfl, N⟩, hq⟩ := rm0 l s _ hw i0 i1 i2 s.heap s.heap.size (Nat.le_refl _)  p e ha hc hk s m _ below hf ((Spec.applies_iff_loose hf).mp happ).1 ⟨rfl, State.Warmed39.refl s, rfl⟩ trivial
  refine ⟨n, _, h1, h2, h3, hpost _ _ _ _ _ _ ⟨Cond.after_iff.mpr rfl, Cond.after_iff.mpr (eq_i res_at (Term.int_eval (1)) rfl), trivial⟩ ⟨hq.1, hq.2.1, (hq.2.2.sift fun y hy => Or.inr (N y hy)).mono (by decide) (by decide)⟩⟩
theorem main_1_1 : Claimed_1_1 := comes_1 fun _ _ _ _ _ _ h hF => ⟨h.1, hF⟩
theorem main_1_2 : Claimed_1_2 := comes_1 fun _ _ _ _ _ _ h hF => ⟨h.2.1, hF⟩
end Jvm.Pilot.@@N@@
namespace Jvm.Pilot.@@N@@
open Jvm Jvm.ClassFile Sem Op Lib Jvm.Free Jvm.Stand Jvm.Pilot.@@N@@.Jvm.D
/-! MADE BY PROGRAM (witnessworld.py) out of the Statement's table words and the real class files: 10 classes; the members and pool entries that the words name. The judged class is class 1, her method 1. -/
namespace start1
open Jvm.ClassFile
def u (s : String) : CpInfo := .utf8 (stringToUtf16 s)
/-- a pool by its gaps: so many unusable entries, then the entry; so many at the end -/
def gap : Nat → List CpInfo → List CpInfo
  | 0, r => r
  | n + 1, r => .unusable :: gap n r
def poolList (es : List (Nat × CpInfo)) (last : Nat) : List CpInfo := es.foldr (fun e r => gap e.1 (e.2 :: r)) (gap last [])
def pool (es : List (Nat × CpInfo)) (last : Nat) : Array CpInfo := ⟨poolList es last⟩
def fileOf (pool : Array CpInfo) (this : Nat) (attrs : Array Attribute := #[]) (ms : Array MethodInfo := #[]) (fl : Nat := 33) (sup : Nat := 0) (ifs : Array Nat := #[]) (fds : Array FieldInfo := #[]) : ClassFile where
  minorVersion := 0
  majorVersion := 65
  constantPool := pool
  accessFlags := fl
  thisClass := this
  superClass := sup
  interfaces := ifs
  fields := fds
  methods := ms
  attributes := attrs
def plain (name : String) (sup : Option ClassId) : Class where
  name := name
  kind := .ordinary
  loader := none
  accessFlags := 33
  super := sup
  interfaces := #[]
  cf := none
  fields := #[]
  methods := #[]
  instanceTypes := #[]
  staticTypes := #[]
  resolved := #[]
  callSites := []
  init := .initialized
  statics := none
  mirror := none

def pool0 : Array CpInfo := pool [(5, u "<init>"), (0, u "()V"), (1, .class_ 10), (1, u "java/lang/Object")] 113

def k0m0 : Method := { name := "<init>", desc := "()V", sig := { parameters := [], returnType := none }, accessFlags := 1, code := none }
/-- java/lang/Object -/
def k0 : Class := { plain "java/lang/Object" none with
  accessFlags := 33
  interfaces := #[]
  cf := some (fileOf pool0 8 #[] #[{ accessFlags := 1, nameIndex := 5, descriptorIndex := 6, attributes := #[] }] 33 0 #[] #[])
  fields := #[]
  methods := #[k0m0]
  instanceTypes := #[]
  staticTypes := #[]
  resolved := Array.replicate 124 none
  statics := none }

def pool1 : Array CpInfo := pool [(2, .class_ 4), (1, u "java/lang/Object"), (0, u "<init>"), (0, u "()V"), (0, .long 8), (1, .methodref 10 11), (0, .class_ 12), (0, .nameAndType 13 14), (0, u "com/example/runfold/runfold/codecs/BitReader"), (0, u "checkLength"), (0, u "([BJ)V"), (0, .class_ 16), (0, u "com/example/runfold/runfold/codecs/BitReaderCheckLengthPinLaw"), (2, u "law"), (0, u "(III)Z")] 5

def k1m0 : Method := { name := "<init>", desc := "()V", sig := { parameters := [], returnType := none }, accessFlags := 1, code := none }
def k1c1 : Code := { maxStack := 5, maxLocals := 12, code := code, exceptionTable := #[], attributes := #[] }
def k1m1 : Method := { name := "law", desc := "(III)Z", sig := { parameters := [.int, .int, .int], returnType := some .boolean }, accessFlags := 9, code := some k1c1 }
/-- com/example/runfold/runfold/codecs/BitReaderCheckLengthPinLaw -/
def k1 : Class := { plain "com/example/runfold/runfold/codecs/BitReaderCheckLengthPinLaw" (some 0) with
  accessFlags := 49
  interfaces := #[]
  cf := some (fileOf pool1 15 #[] #[{ accessFlags := 1, nameIndex := 5, descriptorIndex := 6, attributes := #[] }, { accessFlags := 9, nameIndex := 19, descriptorIndex := 20, attributes := #[] }] 49 2 #[] #[])
  fields := #[]
  methods := #[k1m0, k1m1]
  instanceTypes := #[]
  staticTypes := #[]
  resolved := Array.replicate 26 none
  statics := none }

def pool2 : Array CpInfo := pool [(2, .class_ 4), (1, u "java/lang/Object"), (3, .class_ 10), (1, u "com/example/runfold/runfold/codecs/BitReader"), (0, u "checkLength"), (0, u "([BJ)V"), (2, u "bytes"), (0, u "[B"), (2, u "bitLength"), (0, u "J"), (0, .methodref 22 23), (0, .class_ 24), (0, .nameAndType 25 26), (0, u "com/example/runfold/runfold/codecs/BitWriter"), (0, u "bytesFor"), (0, u "(J)J"), (21, u "position")] 36

def k2c0 : Code := { maxStack := 5, maxLocals := 3, code := prog_4_method_2_code, exceptionTable := #[], attributes := #[] }
def k2m0 : Method := { name := "checkLength", desc := "([BJ)V", sig := { parameters := [(.array .byte), .long], returnType := none }, accessFlags := 8, code := some k2c0 }
/-- com/example/runfold/runfold/codecs/BitReader -/
def k2 : Class := { plain "com/example/runfold/runfold/codecs/BitReader" (some 0) with
  accessFlags := 49
  interfaces := #[]
  cf := some (fileOf pool2 8 #[] #[{ accessFlags := 8, nameIndex := 11, descriptorIndex := 12, attributes := #[] }] 49 2 #[] #[{ accessFlags := 18, nameIndex := 15, descriptorIndex := 16, attributes := #[] }, { accessFlags := 18, nameIndex := 19, descriptorIndex := 20, attributes := #[] }, { accessFlags := 2, nameIndex := 48, descriptorIndex := 20, attributes := #[] }])
  fields := #[{ name := "bytes", type := (.array .byte), accessFlags := 18, slot := 0, constantValue := 0 }, { name := "bitLength", type := .long, accessFlags := 18, slot := 1, constantValue := 0 }, { name := "position", type := .long, accessFlags := 2, slot := 2, constantValue := 0 }]
  methods := #[k2m0]
  instanceTypes := #[(.array .byte), .long, .long]
  staticTypes := #[]
  resolved := Array.replicate 85 none
  statics := none }

def pool3 : Array CpInfo := pool [(4, .class_ 6), (1, u "java/lang/Object"), (0, u "<init>"), (0, u "()V"), (1, .class_ 12), (1, u "com/example/runfold/runfold/codecs/BitWriter"), (0, u "buffer"), (0, u "[B"), (15, u "bitLength"), (0, u "J"), (4, .long 7), (9, u "bytesFor"), (0, u "(J)J"), (25, u "MAX_WIDTH"), (0, u "I"), (2, u "MAX_BYTES")] 30

def k3m0 : Method := { name := "<init>", desc := "()V", sig := { parameters := [], returnType := none }, accessFlags := 1, code := none }
def k3c1 : Code := { maxStack := 4, maxLocals := 2, code := prog_6_method_7_code, exceptionTable := #[], attributes := #[] }
def k3m1 : Method := { name := "bytesFor", desc := "(J)J", sig := { parameters := [.long], returnType := some .long }, accessFlags := 8, code := some k3c1 }
/-- com/example/runfold/runfold/codecs/BitWriter -/
def k3 : Class := { plain "com/example/runfold/runfold/codecs/BitWriter" (some 0) with
  accessFlags := 49
  interfaces := #[]
  cf := some (fileOf pool3 10 #[] #[{ accessFlags := 1, nameIndex := 7, descriptorIndex := 8, attributes := #[] }, { accessFlags := 8, nameIndex := 46, descriptorIndex := 47, attributes := #[] }] 49 4 #[] #[{ accessFlags := 25, nameIndex := 73, descriptorIndex := 74, attributes := #[] }, { accessFlags := 26, nameIndex := 77, descriptorIndex := 74, attributes := #[] }, { accessFlags := 2, nameIndex := 13, descriptorIndex := 14, attributes := #[] }, { accessFlags := 2, nameIndex := 30, descriptorIndex := 31, attributes := #[] }])
  fields := #[{ name := "MAX_WIDTH", type := .int, accessFlags := 25, slot := 0, constantValue := 0 }, { name := "MAX_BYTES", type := .int, accessFlags := 26, slot := 1, constantValue := 0 }, { name := "buffer", type := (.array .byte), accessFlags := 2, slot := 0, constantValue := 0 }, { name := "bitLength", type := .long, accessFlags := 2, slot := 1, constantValue := 0 }]
  methods := #[k3m0, k3m1]
  instanceTypes := #[(.array .byte), .long]
  staticTypes := #[.int, .int]
  resolved := Array.replicate 108 none
  statics := none }

def pool4 : Array CpInfo := pool [(1, u "java/lang/Cloneable"), (0, .class_ 1), (0, u "java/lang/Object"), (0, .class_ 3)] 3

/-- java/lang/Cloneable -/
def k4 : Class := { plain "java/lang/Cloneable" (some 0) with
  accessFlags := 1537
  interfaces := #[]
  cf := some (fileOf pool4 2 #[] #[] 1537 4 #[] #[])
  fields := #[]
  methods := #[]
  instanceTypes := #[]
  staticTypes := #[]
  resolved := Array.replicate 8 none
  statics := none }

def pool5 : Array CpInfo := pool [(1, u "java/io/Serializable"), (0, .class_ 1), (0, u "java/lang/Object"), (0, .class_ 3)] 3

/-- java/io/Serializable -/
def k5 : Class := { plain "java/io/Serializable" (some 0) with
  accessFlags := 1537
  interfaces := #[]
  cf := some (fileOf pool5 2 #[] #[] 1537 4 #[] #[])
  fields := #[]
  methods := #[]
  instanceTypes := #[]
  staticTypes := #[]
  resolved := Array.replicate 8 none
  statics := none }

/-- the primitive byte -/
def k6 : Class := { plain "byte" none with kind := .primitive 'B', accessFlags := 0x411 }
/-- [B -/
def k7 : Class := { plain "[B" (some 0) with kind := .array 6 .byte, interfaces := #[4, 5], accessFlags := 1041 }

/-- the primitive int -/
def k8 : Class := { plain "int" none with kind := .primitive 'I', accessFlags := 0x411 }
/-- [I -/
def k9 : Class := { plain "[I" (some 0) with kind := .array 8 .int, interfaces := #[4, 5], accessFlags := 1041 }

def heap : Heap := #[]
def classes : Array Class := #[k0, k1, k2, k3, k4, k5, k6, k7, k8, k9]
def interned : List (Array UInt16 × Addr) := []
def slotsUsed : Nat := 0
def theMethod : MethodId := ⟨1, 1⟩
def args0 : Array Value := #[.int 5, .int 1, .int 77]
def aboutOver (below : List Frame) : State where
  vm := { classes := classes, interned := interned.toArray }
  heap := heap
  slotsUsed := slotsUsed
  threads := #[{ frames := .invoking theMethod args0 :: below }]
def below0 : List Frame := [.native { method := ⟨0, 0⟩, args := #[] }]
def about1 : State := aboutOver below0
def p0 : Program := .bare "" "" ""
def e0 : Env := launch0.env 0 0 0
theorem w_frames : about1.frames = Frame.invoking theMethod args0 :: below0 := rfl
set_option maxRecDepth 65536 in
theorem w_args : argsFit about1.vm theMethod args0 = true := by decide +kernel
set_option maxRecDepth 65536 in
theorem w_heap : heapFits about1 = true := by decide +kernel
set_option maxRecDepth 65536 in
theorem w_runnable : about1.curStatus? = some .runnable := by decide +kernel
set_option maxRecDepth 65536 in
theorem w_alone : about1.alone = true := by decide +kernel
set_option maxRecDepth 65536 in
theorem w_named : about1.methodNamed? x = some theMethod := by decide +kernel
set_option maxRecDepth 65536 in
theorem w_hears : about1.hears theMethod below0 = true := by decide +kernel
set_option maxRecDepth 65536 in
theorem w_ripe : about1.ripe theMethod args0 below0 = true := by decide +kernel
theorem w_running : about1.status = .running := rfl
set_option maxRecDepth 65536 in
theorem w_room : about1.hasRoom e0.platform room_1 = true :=
  launch0.hasRoom_least _ room_1 (by decide +kernel) (by decide +kernel) (by decide +kernel) (by decide +kernel) (by decide +kernel) (by decide +kernel)
theorem allAtoms_all (ts : List Jvm.Cond) (a : Array Jvm.Value) (st : Jvm.State) : (allAtoms ts).before a st = ts.all (fun c => c.before a st) := by
  induction ts with
  | nil => rfl
  | cons c t ih =>
    show (Jvm.Cond.and c (allAtoms t)).before a st = _
    rw [Jvm.Cond.before_and, ih, List.all_cons]
def words1 : List Jvm.Cond := Jvm.Cond.code x code maxLocals ret :: tables_1
/-- a 'code' word, met by the world's own term for the bytes: nothing is compared byte by byte -/
theorem code_word {y : MethodName} {bytes : ByteArray} {mx : Nat} {rt : Option FieldType} {a : Array Value} {s : State} {m : MethodId} {meth : Method} {c : Code} (h1 : s.methodNamed? y = some m) (h2 : s.vm.method? m = some meth) (h3 : meth.code = some c) (h4 : c.code = bytes)
    (h5 : (c.maxLocals == mx && c.exceptionTable.isEmpty && decide (c.maxStack ≤ mostOperands) && decide (meth.sig.returnType = rt) && !meth.locks && decide (parseMethodDescriptor y.desc = some meth.sig)) = true) : (Jvm.Cond.code y bytes mx rt).before a s = true := by
  simp only [Bool.and_eq_true, beq_iff_eq, Bool.not_eq_true', decide_eq_true_eq] at h5
  obtain ⟨⟨⟨⟨⟨g1, g2⟩, g3⟩, g4⟩, g5⟩, g6⟩ := h5
  simp [Cond.before, Cond.holds, Cond.value, h1, h2, h3, h4, g1, g2, g3, g4, g5, g6]
def isCode : Jvm.Cond → Bool
  | .code _ _ _ _ => true
  | _ => false
theorem all_split {L : List Jvm.Cond} {P : Jvm.Cond → Bool} (h1 : L.all (fun c => isCode c || P c) = true) (h2 : ∀ c ∈ L.filter isCode, P c = true) : L.all P = true := by
  refine List.all_eq_true.mpr fun c hc => ?_
  have h := List.all_eq_true.mp h1 c hc
  rcases Bool.eq_false_or_eq_true (isCode c) with hi | hi
  · exact h2 c (List.mem_filter.mpr ⟨hc, hi⟩)
  · simpa [hi] using h
set_option maxRecDepth 65536 in
theorem w_c0 : (Jvm.Cond.code x code maxLocals ret).before args0 about1 = true := code_word (m := ⟨1, 1⟩) (meth := k1m1) (c := k1c1) (by decide +kernel) rfl rfl rfl (by decide +kernel)
set_option maxRecDepth 65536 in
theorem w_c1 : (Jvm.Cond.code ({ cls := "com/example/runfold/runfold/codecs/BitReader", name := "checkLength", desc := "([BJ)V" } : Jvm.MethodName) prog_4_method_2_code (3 : Nat) (Option.none : Option Jvm.ClassFile.FieldType)).before args0 about1 = true := code_word (m := ⟨2, 0⟩) (meth := k2m0) (c := k2c0) (by decide +kernel) rfl rfl rfl (by decide +kernel)
set_option maxRecDepth 65536 in
theorem w_c2 : (Jvm.Cond.code ({ cls := "com/example/runfold/runfold/codecs/BitWriter", name := "bytesFor", desc := "(J)J" } : Jvm.MethodName) prog_6_method_7_code (2 : Nat) (Option.some Jvm.ClassFile.FieldType.long)).before args0 about1 = true := code_word (m := ⟨3, 1⟩) (meth := k3m1) (c := k3c1) (by decide +kernel) rfl rfl rfl (by decide +kernel)
def codes1 : List Jvm.Cond := [Jvm.Cond.code x code maxLocals ret, Jvm.Cond.code ({ cls := "com/example/runfold/runfold/codecs/BitReader", name := "checkLength", desc := "([BJ)V" } : Jvm.MethodName) prog_4_method_2_code (3 : Nat) (Option.none : Option Jvm.ClassFile.FieldType), Jvm.Cond.code ({ cls := "com/example/runfold/runfold/codecs/BitWriter", name := "bytesFor", desc := "(J)J" } : Jvm.MethodName) prog_6_method_7_code (2 : Nat) (Option.some Jvm.ClassFile.FieldType.long)]
set_option maxRecDepth 65536 in
theorem codes_eq : words1.filter isCode = codes1 := rfl
theorem w_codes : ∀ c ∈ words1.filter isCode, c.before args0 about1 = true := by
  rw [codes_eq]
  intro c hc
  simp only [codes1, List.mem_cons, List.not_mem_nil, or_false] at hc
  rcases hc with rfl | rfl | rfl
  · exact w_c0
  · exact w_c1
  · exact w_c2
set_option maxRecDepth 65536 in
theorem w_t1 : words1.all (fun c => isCode c || c.before args0 about1) = true := by decide +kernel
theorem w_tables : (allAtoms (Jvm.Cond.code x code maxLocals ret :: tables_1)).before args0 about1 = true := by
  rw [allAtoms_all]
  show words1.all (fun c => c.before args0 about1) = true
  refine all_split ?_ w_codes
  rw [w_t1]
set_option maxRecDepth 65536 in
theorem w_case : (Jvm.Cond.and given_1 narrow_1).before args0 about1 = true := by decide +kernel
theorem w_applies : (headSpec (Jvm.Cond.code x code maxLocals ret :: tables_1) room_1).applies x e0.platform about1 = true :=
  (Spec.applies_iff w_frames).mpr ⟨w_running, w_runnable, w_alone, w_named, w_hears, w_ripe, w_room, w_tables⟩
theorem atStart : AtStart classFile x code maxLocals ret World_1 tables_1 room_1 Calls_1 rest_1 Pre_1 launch0 p0 e0 about1 theMethod args0 below0 :=
  ⟨lists_1, trivial, launch0.admits_env _ _ _, launch0.least_env, fairChoices_fair.cas, fairChoices_fair.clock, w_frames, w_args, w_heap, w_applies, trivial, trivial, w_case⟩
end start1
theorem witness_1 : WitnessClaimed_1 := ⟨start1.p0, start1.e0, start1.about1, start1.theMethod, start1.args0, start1.below0, start1.atStart⟩
end Jvm.Pilot.@@N@@
