import JvmDerived
import JvmDerived.Pilot.@@N@@Statement
import JvmDerived.Pilot.@@N@@Code
set_option linter.unusedVariables false
set_option linter.unusedSimpArgs false
namespace Jvm.Pilot.@@N@@
open Jvm Jvm.ClassFile Sem Op Lib Jvm.Free Jvm.Stand Jvm.LawKit Jvm.RoadKit Bundle Jvm.Pilot.@@N@@.Jvm.D
theorem own_w {Z : State} {a0 : Array Value} (hw : ∀ d ∈ tables_1, d.before a0 Z = true) (k : Nat) {d : Jvm.Cond} (h : tables_1[k]? = some d) : d.before a0 Z = true := hw _ (List.mem_of_getElem? h)
/-- the run from U ends, and Q says what it leaves -/
def own_Fin (p : Program) (e : Env) (below : List Frame) (s : State) (Q : Option Value → Heap → List Loc → Prop) (k n : Nat) (U : State) : Prop :=
  ∃ s₂ o, Steps p.tables e below U s₂ ∧ s₂.status = .running ∧ Ended s₂ below o ∧ ∃ v L, o = .returned v ∧ Q v s₂.heap L ∧ FrameEnd s o s₂ L k n
theorem own_Fin.step {p : Program} {e : Env} {below : List Frame} {s : State} {Q : Option Value → Heap → List Loc → Prop} {k n : Nat} {U U' : State} (st : ∀ t, Steps p.tables e below U' t → Steps p.tables e below U t) (h : own_Fin p e below s Q k n U') : own_Fin p e below s Q k n U := by
  obtain ⟨s₂, o, h1, h2⟩ := h
  exact ⟨s₂, o, st _ h1, h2⟩
/-- a contract: called with as' at the heap h, the body leaves what Q says -/
abbrev own_Met (l : Launch) (Z : State) (ws : List Jvm.Cond) (y : MethodName) (bytes : ByteArray) (maxL : Nat) (ret : Option FieldType) (rm : Room) (as' : Array Value) (h : Heap) (Q : Option Value → Heap → List Loc → Prop) : Prop :=
  MetFree l y (head1 (Jvm.Cond.code y bytes maxL ret :: ws) rm) (fun a U => a = as' ∧ Z.Warmed39 U.vm ∧ U.heap = h) (fun _ _ _ _ _ => True) (fun _ U o U' => ∃ v L, o = .returned v ∧ Q v U'.heap L ∧ FrameEnd U o U' L rm.cells rm.slots)
/-- what a body leaves that returns w and writes nothing -/
def own_QP (w : Option Value) (h0 : Heap) (n0 : Nat) (v : Option Value) (h : Heap) (L : List Loc) : Prop := v = w ∧ Fr n0 L ∧ h = h0
/-- the law's own end -/
def own_Q0 (n0 : Nat) (v : Option Value) (h : Heap) (L : List Loc) : Prop := v = some (.int 1) ∧ Fr n0 L
theorem own_enter {l : Launch} {Z : State} {ws : List Jvm.Cond} {y : MethodName} {bytes : ByteArray} {maxL : Nat} {ret : Option FieldType} {rm : Room} {as' : Array Value} {h : Heap} {Q : Option Value → Heap → List Loc → Prop} (hp : plainFor y = true)
    (body : ∀ (p : Program) (e : Env) (s : State) (m : MethodId) (below : List Frame) (meth : Method) (c : Code) (s₁ : State), Stand p l e rm s m as' below meth c s₁ [] 0 0 → p.tables.exec = Jvm.exec → c.code = bytes → c.maxLocals = maxL → s.vm.findClass y.cls = some m.cls → meth.sig.returnType = ret → meth.locks = false → meth.name = y.name → Z.Warmed39 s.vm → s₁.heap = h →
      own_Fin p e below s Q rm.cells rm.slots (s₁.setTop (entryFrame m as' maxL))) : own_Met l Z ws y bytes maxL ret rm as' h Q := by
  refine MetFree.of_bodySF hp hisR ?_
  intro p e s m args below meth c s₁ Bd hml0 hP hK
  obtain ⟨rfl, hZ, hh⟩ := hP
  exact body p e s m below meth c s₁ (Stand.of_body Bd) Bd.exec Bd.bytes hml0 (findClass_of_methodNamed Bd.named) Bd.returns (BodyLoose.notSynchronized Bd) (name_of_methodNamed Bd.named Bd.method).1 hZ (by rw [← hh, Bd.state]; rfl)
section Own
variable {p : Program} {l : Launch} {e : Env} {R : Room} {s : State} {m : MethodId} {args : Array Value} {below : List Frame} {meth : Method} {c : Code} {T : State} {locs : List Loc} {cells slots : Nat} {Z : State} {a0 : Array Value} {h : Heap} {Q : Option Value → Heap → List Loc → Prop} {k n : Nat}
theorem own_retI (X : Stand p l e R s m args below meth c T locs cells slots) (hx : p.tables.exec = Jvm.exec) (hlk : meth.locks = false) {pc : Nat} {Ls : Array Slot} {z : Int32} {rest : List Value} (hret : meth.sig.returnType = some .int) (hd : decode c.code pc = .ok (.ireturn, 1)) (hQ : Q (some (.int z)) T.heap locs) (hk : cells ≤ k) (hn : slots ≤ n) :
    own_Fin p e below s Q k n (T.setTop (mkF m pc Ls (.int z :: rest))) := by
  obtain ⟨fs, hr, hrun, hended, hW, hsame⟩ := X.leave (v := some (.int z)) (fun h => by rw [hret] at h; cases h) hlk
  refine ⟨_, _, ?_, hrun, hended, _, _, rfl, hQ, ⟨_, rfl⟩, hW, hsame.mono hk hn⟩
  have hm' : T.vm.method? m = some meth := X.method'
  have hnn : narrow .int (.int z) = .int z := rfl
  show Steps p.tables e below (T.setTop { method := m, pc := pc, locals := Ls, stack := _ :: rest, locked := none }) _
  jvm_step X.here [X.here.top, hx, hd, hm', hret, hnn]
  first | (intro acts; rw [hr _ acts rfl rfl rfl]) | rw [hr _ _ rfl rfl rfl]
  exact Steps.refl _
theorem own_retN (X : Stand p l e R s m args below meth c T locs cells slots) (hx : p.tables.exec = Jvm.exec) (hlk : meth.locks = false) {pc : Nat} {Ls : Array Slot} {z : Int32} {t : FieldType} {rest : List Value} (hret : meth.sig.returnType = some t) (ht : t = .boolean ∨ t = .byte ∨ t = .char ∨ t = .short) (hd : decode c.code pc = .ok (.ireturn, 1)) (hQ : Q (some (.int (nar t z))) T.heap locs) (hk : cells ≤ k) (hn : slots ≤ n) :
    own_Fin p e below s Q k n (T.setTop (mkF m pc Ls (.int z :: rest))) := by
  obtain ⟨fs, hr, hrun, hended, hW, hsame⟩ := X.leave (v := some (.int (nar t z))) (fun h => by rw [hret] at h; cases h) hlk
  exact ⟨_, _, retN X hx hret ht hd hr, hrun, hended, _, _, rfl, hQ, ⟨_, rfl⟩, hW, hsame.mono hk hn⟩
theorem own_retJ (X : Stand p l e R s m args below meth c T locs cells slots) (hx : p.tables.exec = Jvm.exec) (hlk : meth.locks = false) {pc : Nat} {Ls : Array Slot} {z : Int64} (hret : meth.sig.returnType = some .long) (hd : decode c.code pc = .ok (.lreturn, 1)) (hQ : Q (some (.long z)) T.heap locs) (hk : cells ≤ k) (hn : slots ≤ n) :
    own_Fin p e below s Q k n (T.setTop (mkF m pc Ls [.long z])) := by
  obtain ⟨fs, hr, hrun, hended, hW, hsame⟩ := X.leave (v := some (.long z)) (fun h => by rw [hret] at h; cases h) hlk
  exact ⟨_, _, X.lreturnOut hx hret hd hr, hrun, hended, _, _, rfl, hQ, ⟨_, rfl⟩, hW, hsame.mono hk hn⟩
theorem own_retR (X : Stand p l e R s m args below meth c T locs cells slots) (hx : p.tables.exec = Jvm.exec) (hlk : meth.locks = false) {pc : Nat} {Ls : Array Slot} {w : Value} {t : FieldType} (hw : w.isRef = true) (hret : meth.sig.returnType = some t) (ht : t.isReference = true) (hd : decode c.code pc = .ok (.areturn, 1)) (hQ : Q (some w) T.heap locs) (hk : cells ≤ k) (hn : slots ≤ n) :
    own_Fin p e below s Q k n (T.setTop (mkF m pc Ls [w])) := by
  obtain ⟨fs, hr, hrun, hended, hW, hsame⟩ := X.leave (v := some w) (fun h => by rw [hret] at h; cases h) hlk
  exact ⟨_, _, X.areturnOut hx hw hret ht hd hr, hrun, hended, _, _, rfl, hQ, ⟨_, rfl⟩, hW, hsame.mono hk hn⟩
theorem own_ret0 (X : Stand p l e R s m args below meth c T locs cells slots) (hx : p.tables.exec = Jvm.exec) (hlk : meth.locks = false) {pc : Nat} {Ls : Array Slot} (hret : meth.sig.returnType = none) (hd : decode c.code pc = .ok (.return_, 1)) (hQ : Q none T.heap locs) (hk : cells ≤ k) (hn : slots ≤ n) :
    own_Fin p e below s Q k n (T.setTop (mkF m pc Ls [])) := by
  obtain ⟨fs, hr, hrun, hended, hW, hsame⟩ := X.leave (v := none) (fun _ => rfl) hlk
  exact ⟨_, _, X.returnOut hx hret hd hr, hrun, hended, _, _, rfl, hQ, ⟨_, rfl⟩, hW, hsame.mono hk hn⟩
theorem own_lrem {tb : Tables} [Ours tb] {target : State} {g : JFrame} (h : At T m c below) (hx : tb.exec = Jvm.exec) (hg : g.method = m) {x y : Int64} {rest : List Value} (hd : decode c.code g.pc = .ok (.lrem, 1)) (hs : g.stack = .long y :: .long x :: rest) (hy : y ≠ 0)
    (hr : Steps tb e below (T.setTop { g with pc := g.pc + 1, stack := .long (x % y) :: rest }) target) : Steps tb e below (T.setTop g) target := by
  have q : x - x / y * y = x % y := lrem_mod x y
  exact XS.lrem h hx hg hd hs hy (by rw [q]; exact hr)
theorem own_callS (X : Stand p l e R s m args below meth c T locs cells slots) (hx : p.tables.exec = Jvm.exec) (hZ : Z.Warmed39 s.vm) {own : String} {index : Nat} {y : MethodName} {bytes : ByteArray} {maxL : Nat} {ret : Option FieldType} {rm : Room} {as' : Array Value}
    (hown : s.vm.findClass own = some m.cls) (w1 : (Jvm.Cond.methodLink own index y).before a0 Z = true) (w2 : (Jvm.Cond.static y).before a0 Z = true) (w3 : (Jvm.Cond.initialized y.cls).before a0 Z = true) (w4 : (Jvm.Cond.code y bytes maxL ret).before a0 Z = true)
    (hy : y.cls ≠ "java/lang/invoke/MethodHandle" ∧ y.cls ≠ "java/lang/invoke/VarHandle") (hM : own_Met l Z [] y bytes maxL ret rm as' h Q) {W : Nat} (hf : rm.frames + 1 ≤ R.frames) (hl : W + (maxL + 11) + rm.locals ≤ R.locals) (eT : T.heap = h)
    {g : JFrame} (hg : g.method = m) (hsize : g.locals.size = c.maxLocals) {argsL rest : List Value} (hlen : ∀ sig, parseMethodDescriptor y.desc = some sig → argsL.length = sig.parameters.length) (has : argsL.toArray = as') (hstack : g.stack = argsL.reverse ++ rest) (hW : 2 * g.monitorRoom + (rest.map fun v => v.category).sum ≤ W)
    (hdg : decode c.code g.pc = .ok (.invokestatic index, 3)) (hc : cells + rm.cells ≤ R.cells) (hs : slots + rm.slots ≤ R.slots) :
    ∃ v T' L, Stand p l e R s m args below meth c T' (locs ++ L) (cells + rm.cells) (slots + rm.slots) ∧ Q v T'.heap L ∧ ∀ t, Steps p.tables e below (T'.setTop { g with pc := g.pc + 3, stack := v.toList ++ rest }) t → Steps p.tables e below (T.setTop g) t := by
  obtain ⟨v, vm1, ⟨T', L', k', n'⟩, -, X', ⟨Lc, hQ, l1, y1, z1⟩, st⟩ := Jvm.LawKit.callS X hx (y := y) hown (mvT hZ w1) (mvT hZ w2) (mvT hZ w3) (mvT hZ w4) hy (backOf (W := W) hM hZ w4 w3 hf hl) (g := g) hg hsize (argsL := argsL) (rest := rest) hlen hstack hW hdg (fun _ _ => ⟨has, eT, hc, hs⟩)
  dsimp only [Pt.U, Pt.locs, Pt.cells, Pt.slots] at X' l1 y1 z1 st hQ
  subst l1 y1 z1
  exact ⟨v, T', Lc, X', hQ, st⟩
theorem own_callN (X : Stand p l e R s m args below meth c T locs cells slots) (hx : p.tables.exec = Jvm.exec) (hZ : Z.Warmed39 s.vm) {own : String} {index : Nat} {y : MethodName} {bytes : ByteArray} {maxL : Nat} {rm : Room} {as' : Array Value} (hy1 : y.name = "<init>")
    (hown : s.vm.findClass own = some m.cls) (w1 : (Jvm.Cond.methodLink own index y).before a0 Z = true) (w2 : (Jvm.Cond.instanceMethod y).before a0 Z = true) (w3 : (Jvm.Cond.initialized y.cls).before a0 Z = true) (w4 : (Jvm.Cond.code y bytes maxL none).before a0 Z = true)
    (hy : y.cls ≠ "java/lang/invoke/MethodHandle" ∧ y.cls ≠ "java/lang/invoke/VarHandle") (hM : own_Met l Z [] y bytes maxL none rm as' h Q) {W : Nat} (hf : rm.frames + 1 ≤ R.frames) (hl : W + (maxL + 11) + rm.locals ≤ R.locals) {a : Addr} (eT : T.heap = h)
    {g : JFrame} (hg : g.method = m) (hsize : g.locals.size = c.maxLocals) {argsL rest : List Value} (hlen : ∀ sig, parseMethodDescriptor y.desc = some sig → argsL.length = sig.parameters.length) (has : (.ref a :: argsL).toArray = as') (hstack : g.stack = argsL.reverse ++ .ref a :: rest) (hW : 2 * g.monitorRoom + (rest.map fun v => v.category).sum ≤ W)
    (hdg : decode c.code g.pc = .ok (.invokespecial index, 3)) (hc : cells + rm.cells ≤ R.cells) (hs : slots + rm.slots ≤ R.slots) :
    ∃ v T' L, Stand p l e R s m args below meth c T' (locs ++ L) (cells + rm.cells) (slots + rm.slots) ∧ Q v T'.heap L ∧ ∀ t, Steps p.tables e below (T'.setTop { g with pc := g.pc + 3, stack := v.toList ++ rest }) t → Steps p.tables e below (T.setTop g) t := by
  obtain ⟨v, vm1, ⟨T', L', k', n'⟩, -, X', ⟨Lc, hQ, l1, y1, z1⟩, st⟩ := X.specialBack hx (y := y) hy1 hown (mvT hZ w1) (mvT hZ w2) (mvT hZ w4) hy (backOf (W := W) hM hZ w4 w3 hf hl) (g := g) hg hsize (Steps.refl _) (a := a) (argsL := argsL) (rest := rest) hlen hstack hW hdg (fun _ _ => ⟨has, eT, hc, hs⟩)
  dsimp only [Pt.U, Pt.locs, Pt.cells, Pt.slots] at X' l1 y1 z1 st hQ
  subst l1 y1 z1
  exact ⟨v, T', Lc, X', hQ, fun t k => st.trans k⟩
theorem own_callV (X : Stand p l e R s m args below meth c T locs cells slots) (hx : p.tables.exec = Jvm.exec) (hZ : Z.Warmed39 s.vm) {own C : String} {index : Nat} {y : MethodName} {bytes : ByteArray} {maxL : Nat} {ret : Option FieldType} {rm : Room} {as' : Array Value}
    (hown : s.vm.findClass own = some m.cls) (w1 : (Jvm.Cond.methodLink own index y).before a0 Z = true) (w2 : (Jvm.Cond.declares y).before a0 Z = true) (w5 : (Jvm.Cond.selects C y y).before a0 Z = true) (w6 : (Jvm.Cond.instanceMethod y).before a0 Z = true) (w3 : (Jvm.Cond.initialized y.cls).before a0 Z = true) (w4 : (Jvm.Cond.code y bytes maxL ret).before a0 Z = true)
    (hy : y.cls ≠ "java/lang/invoke/MethodHandle" ∧ y.cls ≠ "java/lang/invoke/VarHandle") (hM : own_Met l Z [] y bytes maxL ret rm as' h Q) {W : Nat} (hf : rm.frames + 1 ≤ R.frames) (hl : W + (maxL + 11) + rm.locals ≤ R.locals) {a : Addr} (E : Exa Z h a C) (eT : T.heap = h)
    {g : JFrame} (hg : g.method = m) (hsize : g.locals.size = c.maxLocals) {argsL rest : List Value} (hlen : ∀ sig, parseMethodDescriptor y.desc = some sig → argsL.length = sig.parameters.length) (has : (.ref a :: argsL).toArray = as') (hstack : g.stack = argsL.reverse ++ .ref a :: rest) (hW : 2 * g.monitorRoom + (rest.map fun v => v.category).sum ≤ W)
    (hdg : decode c.code g.pc = .ok (.invokevirtual index, 3)) (hc : cells + rm.cells ≤ R.cells) (hs : slots + rm.slots ≤ R.slots) :
    ∃ v T' L, Stand p l e R s m args below meth c T' (locs ++ L) (cells + rm.cells) (slots + rm.slots) ∧ Q v T'.heap L ∧ ∀ t, Steps p.tables e below (T'.setTop { g with pc := g.pc + 3, stack := v.toList ++ rest }) t → Steps p.tables e below (T.setTop g) t := by
  obtain ⟨cq, kq, qa, qb, qc⟩ := isOf hZ eT E
  obtain ⟨v, vm1, ⟨T', L', k', n'⟩, -, X', ⟨Lc, hQ, l1, y1, z1⟩, st⟩ := X.virtualBack hx (y := y) (z := y) hown (mvT hZ w1) (mvT hZ w2) (notFace_of_selects (args := #[]) (mvT hZ w5)) (mvT hZ w5) (mvT hZ w6) hy (backOf (W := W) hM hZ w4 w3 hf hl) qa qc (g := g) hg hsize (Steps.refl _) (argsL := argsL) (rest := rest) hlen hstack hW hdg (fun _ _ => ⟨has, eT, hc, hs⟩)
  dsimp only [Pt.U, Pt.locs, Pt.cells, Pt.slots] at X' l1 y1 z1 st hQ
  subst l1 y1 z1
  exact ⟨v, T', Lc, X', hQ, fun t k => st.trans k⟩
theorem own_newA (X : Stand p l e R s m args below meth c T locs cells slots) (hx : p.tables.exec = Jvm.exec) (hZ : Z.Warmed39 s.vm) {aty : ArrayType} (w : (Jvm.Cond.arrayClass (newarray.typeOf aty)).before a0 Z = true) (eT : T.heap = h) {ty : FieldType} {dv : Value} (hty : newarray.typeOf aty = ty) (hdv : defaultValue ty = dv)
    {g : JFrame} (hg : g.method = m) (hd : decode c.code g.pc = .ok (.newarray aty, 2)) {n : Int32} {rest : List Value} (hs : g.stack = .int n :: rest) (hn : ¬ n < 0) {cap : Nat} (hcap : n.toNatClampNeg ≤ cap) (hb : cap * 8 ≤ 536870912) (hc : cells + 1 ≤ R.cells) (hl : slots + cap ≤ R.slots) (N : Nat) :
    ∃ T' h' k a, Stand p l e R s m args below meth c T' locs (cells + 1) (slots + cap) ∧ T'.heap = h' ∧ Ext h h' ∧ a = h.size ∧ Arv Z h' a k ty n (List.replicate N dv) dv ∧
      ∀ t, Steps p.tables e below (T'.setTop { g with pc := g.pc + 2, stack := .ref a :: rest }) t → Steps p.tables e below (T.setTop g) t := by
  subst hty hdv
  obtain ⟨T', h', k, X', e', E, A, st⟩ := newP X hx hZ w eT hg hd hs hn hcap hb hc hl
  exact ⟨T', h', k, _, X', e', E, rfl, by simpa using (Arv.new A hn).pad (pad_rep [] _ N), st⟩
theorem own_stI (X : Stand p l e R s m args below meth c T locs cells slots) (hx : p.tables.exec = Jvm.exec) (hZ : Z.Warmed39 s.vm) (eT : T.heap = h) {a : Addr} {k : ClassId} {n : Int32} {vs : List Value} {dv : Value} (F : Arv Z h a k .int n vs dv) {j x : Int32} (hj : ¬ j < 0 ∧ j < n) (i : Nat) (hi : j.toNatClampNeg = i) (hl : i < vs.length)
    {g : JFrame} (hg : g.method = m) {rest : List Value} (hs : g.stack = .int x :: .int j :: .ref a :: rest) (hd : decode c.code g.pc = .ok (.iastore, 1)) :
    ∃ T' h', Stand p l e R s m args below meth c T' (locs ++ [⟨a, j.toNatClampNeg⟩]) cells slots ∧ T'.heap = h' ∧ Arv Z h' a k .int n (vs.set i (.int x)) dv ∧ Wr h h' a j.toNatClampNeg (.int x) ∧ ∀ t, Steps p.tables e below (T'.setTop { g with pc := g.pc + 1, stack := rest }) t → Steps p.tables e below (T.setTop g) t := by
  obtain ⟨cl, A, q1, q2, q3, H, G⟩ := F
  obtain ⟨T', h', X', e', W, st⟩ := stI X hx hZ eT A (j := j) (inb_of q2 hj) hg hs hd
  exact ⟨T', h', X', e', Arv.set A q1 q2 q3 H G rfl W i hi hl, W, st⟩
theorem own_stJ (X : Stand p l e R s m args below meth c T locs cells slots) (hx : p.tables.exec = Jvm.exec) (hZ : Z.Warmed39 s.vm) (eT : T.heap = h) {a : Addr} {k : ClassId} {n : Int32} {vs : List Value} {dv : Value} (F : Arv Z h a k .long n vs dv) {j : Int32} {x : Int64} (hj : ¬ j < 0 ∧ j < n) (i : Nat) (hi : j.toNatClampNeg = i) (hl : i < vs.length)
    {g : JFrame} (hg : g.method = m) {rest : List Value} (hs : g.stack = .long x :: .int j :: .ref a :: rest) (hd : decode c.code g.pc = .ok (.lastore, 1)) :
    ∃ T' h', Stand p l e R s m args below meth c T' (locs ++ [⟨a, j.toNatClampNeg⟩]) cells slots ∧ T'.heap = h' ∧ Arv Z h' a k .long n (vs.set i (.long x)) dv ∧ Wr h h' a j.toNatClampNeg (.long x) ∧ ∀ t, Steps p.tables e below (T'.setTop { g with pc := g.pc + 1, stack := rest }) t → Steps p.tables e below (T.setTop g) t := by
  obtain ⟨cl, A, q1, q2, q3, H, G⟩ := F
  obtain ⟨T', h', X', e', W, st⟩ := stJ X hx hZ eT A (j := j) (inb_of q2 hj) hg hs hd
  exact ⟨T', h', X', e', Arv.set A q1 q2 q3 H G rfl W i hi hl, W, st⟩
theorem own_stB (X : Stand p l e R s m args below meth c T locs cells slots) (hx : p.tables.exec = Jvm.exec) (hZ : Z.Warmed39 s.vm) (eT : T.heap = h) {a : Addr} {k : ClassId} {n : Int32} {vs : List Value} {dv : Value} (F : Arv Z h a k .byte n vs dv) {j x : Int32} (hj : ¬ j < 0 ∧ j < n) (i : Nat) (hi : j.toNatClampNeg = i) (hl : i < vs.length)
    {g : JFrame} (hg : g.method = m) {rest : List Value} (hs : g.stack = .int x :: .int j :: .ref a :: rest) (hd : decode c.code g.pc = .ok (.bastore, 1)) :
    ∃ T' h', Stand p l e R s m args below meth c T' (locs ++ [⟨a, j.toNatClampNeg⟩]) cells slots ∧ T'.heap = h' ∧ Arv Z h' a k .byte n (vs.set i (.int (nar .byte x))) dv ∧ Wr h h' a j.toNatClampNeg (.int (nar .byte x)) ∧ ∀ t, Steps p.tables e below (T'.setTop { g with pc := g.pc + 1, stack := rest }) t → Steps p.tables e below (T.setTop g) t := by
  obtain ⟨cl, A, q1, q2, q3, H, G⟩ := F
  obtain ⟨T', h', X', e', W, st⟩ := stB X hx hZ eT A (j := j) (inb_of q2 hj) hg hs hd
  exact ⟨T', h', X', e', Arv.set A q1 q2 q3 H G (fits_nar_byte x) W i hi hl, W, st⟩
theorem own_nar (y : Int32) : nar .byte y.toInt8.toInt32 = y.toInt8.toInt32 := by
  show y.toInt8.toInt32.toInt8.toInt32 = _
  simp
theorem own_stBn (X : Stand p l e R s m args below meth c T locs cells slots) (hx : p.tables.exec = Jvm.exec) (hZ : Z.Warmed39 s.vm) (eT : T.heap = h) {a : Addr} {k : ClassId} {n : Int32} {vs : List Value} {dv : Value} (F : Arv Z h a k .byte n vs dv) {j x : Int32} (hj : ¬ j < 0 ∧ j < n) (i : Nat) (hi : j.toNatClampNeg = i) (hl : i < vs.length)
    {g : JFrame} (hg : g.method = m) {rest : List Value} (hs : g.stack = .int x.toInt8.toInt32 :: .int j :: .ref a :: rest) (hd : decode c.code g.pc = .ok (.bastore, 1)) :
    ∃ T' h', Stand p l e R s m args below meth c T' (locs ++ [⟨a, j.toNatClampNeg⟩]) cells slots ∧ T'.heap = h' ∧ Arv Z h' a k .byte n (vs.set i (.int x.toInt8.toInt32)) dv ∧ Wr h h' a j.toNatClampNeg (.int x.toInt8.toInt32) ∧ ∀ t, Steps p.tables e below (T'.setTop { g with pc := g.pc + 1, stack := rest }) t → Steps p.tables e below (T.setTop g) t := by
  have h := own_stB X hx hZ eT F hj i hi hl hg hs hd
  rw [own_nar] at h
  exact h
theorem own_ldI (X : Stand p l e R s m args below meth c T locs cells slots) (hx : p.tables.exec = Jvm.exec) (hZ : Z.Warmed39 s.vm) (eT : T.heap = h) {a : Addr} {k : ClassId} {n : Int32} {vs : List Value} {dv v : Value} (F : Arv Z h a k .int n vs dv) {j : Int32} (hj : ¬ j < 0 ∧ j < n) (hv : vs.getD j.toNatClampNeg dv = v)
    {g : JFrame} (hg : g.method = m) {rest : List Value} (hs : g.stack = .int j :: .ref a :: rest) (hd : decode c.code g.pc = .ok (.iaload, 1)) :
    ∀ t, Steps p.tables e below (T.setTop { g with pc := g.pc + 1, stack := v :: rest }) t → Steps p.tables e below (T.setTop g) t := by
  obtain ⟨cl, A, q1, q2, q3, H, G⟩ := F
  have hin := inb_of q2 hj
  exact fun t kt => X.iaload hx (j := j) (v := v) (by rw [eT]; exact A.1) (State.isArrayOf_alike hZ.alike A.2.1) A.2.2 hin (H.at hin hv) hg hs hd _ kt
theorem own_ldJ (X : Stand p l e R s m args below meth c T locs cells slots) (hx : p.tables.exec = Jvm.exec) (hZ : Z.Warmed39 s.vm) (eT : T.heap = h) {a : Addr} {k : ClassId} {n : Int32} {vs : List Value} {dv v : Value} (F : Arv Z h a k .long n vs dv) {j : Int32} (hj : ¬ j < 0 ∧ j < n) (hv : vs.getD j.toNatClampNeg dv = v)
    {g : JFrame} (hg : g.method = m) {rest : List Value} (hs : g.stack = .int j :: .ref a :: rest) (hd : decode c.code g.pc = .ok (.laload, 1)) :
    ∀ t, Steps p.tables e below (T.setTop { g with pc := g.pc + 1, stack := v :: rest }) t → Steps p.tables e below (T.setTop g) t := by
  obtain ⟨cl, A, q1, q2, q3, H, G⟩ := F
  have hin := inb_of q2 hj
  exact fun t kt => X.laload hx (j := j) (v := v) (by rw [eT]; exact A.1) (State.isArrayOf_alike hZ.alike A.2.1) A.2.2 hin (H.at hin hv) hg hs hd _ kt
theorem own_ldB (X : Stand p l e R s m args below meth c T locs cells slots) (hx : p.tables.exec = Jvm.exec) (hZ : Z.Warmed39 s.vm) (eT : T.heap = h) {a : Addr} {k : ClassId} {n : Int32} {vs : List Value} {dv v : Value} (F : Arv Z h a k .byte n vs dv) {j : Int32} (hj : ¬ j < 0 ∧ j < n) (hv : vs.getD j.toNatClampNeg dv = v)
    {g : JFrame} (hg : g.method = m) {rest : List Value} (hs : g.stack = .int j :: .ref a :: rest) (hd : decode c.code g.pc = .ok (.baload, 1)) :
    ∀ t, Steps p.tables e below (T.setTop { g with pc := g.pc + 1, stack := v :: rest }) t → Steps p.tables e below (T.setTop g) t := by
  obtain ⟨cl, A, q1, q2, q3, H, G⟩ := F
  have hin := inb_of q2 hj
  exact fun t kt => X.baloadBytes hx (j := j) (v := v) (by rw [eT]; exact A.1) (State.isArrayOf_alike hZ.alike A.2.1) A.2.2 hin (H.at hin hv) hg hs hd _ kt
theorem own_len (X : Stand p l e R s m args below meth c T locs cells slots) (hx : p.tables.exec = Jvm.exec) (hZ : Z.Warmed39 s.vm) (eT : T.heap = h) {a : Addr} {k : ClassId} {ty : FieldType} {n : Int32} {vs : List Value} {dv : Value} (F : Arv Z h a k ty n vs dv)
    {g : JFrame} (hg : g.method = m) {rest : List Value} (hs : g.stack = .ref a :: rest) (hd : decode c.code g.pc = .ok (.arraylength, 1)) :
    ∀ t, Steps p.tables e below (T.setTop { g with pc := g.pc + 1, stack := .int n :: rest }) t → Steps p.tables e below (T.setTop g) t := by
  obtain ⟨cl, A, q1, q2, q3, H, G⟩ := F
  exact fun t kt => X.arraylength hx (by rw [eT]; exact A.1) (State.isArrayOf_alike hZ.alike A.2.1) hg hs hd _ (by rw [len_of q2 q3]; exact kt)
end Own
/-- an array of small numbers by a function of the place -/
def own_Arf (Z : State) (h : Heap) (a : Addr) (k : ClassId) (ty : FieldType) (n : Int32) (f : Nat → Int32) : Prop := ∃ c : Cell, Arr Z h a c ty ∧ c.cls = k ∧ c.slots.size = n.toNatClampNeg ∧ ¬ n < 0 ∧ ∀ i, i < c.slots.size → c.slots[i]? = some (.int (f i))
def own_upd (f : Nat → Int32) (j : Nat) (x : Int32) : Nat → Int32 := fun i => if i = j then x else f i
section OwnF
variable {p : Program} {l : Launch} {e : Env} {R : Room} {s : State} {m : MethodId} {args : Array Value} {below : List Frame} {meth : Method} {c : Code} {T : State} {locs : List Loc} {cells slots : Nat} {Z : State} {a0 : Array Value} {h h' : Heap} {a b : Addr} {k : ClassId} {ty : FieldType} {n : Int32} {f : Nat → Int32} {ws : List Addr} {sl : Nat} {v : Value}
theorem own_Arf.lt (F : own_Arf Z h a k ty n f) : a < h.size := by obtain ⟨c, A, -⟩ := F; exact A.lt
theorem own_Arf.ext (F : own_Arf Z h a k ty n f) (E : Ext h h') : own_Arf Z h' a k ty n f := by obtain ⟨c, A, r⟩ := F; exact ⟨c, A.ext E, r⟩
theorem own_Arf.other (F : own_Arf Z h b k ty n f) (W : Wr h h' a sl v) (q : b ≠ a) : own_Arf Z h' b k ty n f := by obtain ⟨c, A, r⟩ := F; exact ⟨c, A.other W q, r⟩
theorem own_Arf.keep (F : own_Arf Z h a k ty n f) (K : Keep h h' ws) (q : a ∉ ws) : own_Arf Z h' a k ty n f := by obtain ⟨c, A, r⟩ := F; exact ⟨c, ⟨K.2.1 a c A.1 q, A.2⟩, r⟩
theorem own_Arf.of {N : Nat} (F : Arv Z h a k ty n (List.replicate N (.int 0)) (.int 0)) : own_Arf Z h a k ty n (fun _ => 0) := by
  obtain ⟨c, A, q1, q2, q3, H, -⟩ := F
  refine ⟨c, A, q1, q2, q3, fun i hi => ?_⟩
  rw [H i hi]; congr 1
  rw [List.getD_eq_getElem?_getD, List.getElem?_replicate]; split <;> rfl
theorem own_lenF (X : Stand p l e R s m args below meth c T locs cells slots) (hx : p.tables.exec = Jvm.exec) (hZ : Z.Warmed39 s.vm) (eT : T.heap = h) (F : own_Arf Z h a k ty n f)
    {g : JFrame} (hg : g.method = m) {rest : List Value} (hs : g.stack = .ref a :: rest) (hd : decode c.code g.pc = .ok (.arraylength, 1)) :
    ∀ t, Steps p.tables e below (T.setTop { g with pc := g.pc + 1, stack := .int n :: rest }) t → Steps p.tables e below (T.setTop g) t := by
  obtain ⟨cl, A, q1, q2, q3, H⟩ := F
  exact fun t kt => X.arraylength hx (by rw [eT]; exact A.1) (State.isArrayOf_alike hZ.alike A.2.1) hg hs hd _ (by rw [len_of q2 q3]; exact kt)
theorem own_ldFI (X : Stand p l e R s m args below meth c T locs cells slots) (hx : p.tables.exec = Jvm.exec) (hZ : Z.Warmed39 s.vm) (eT : T.heap = h) (F : own_Arf Z h a k .int n f) {j : Int32} (hj : ¬ j < 0 ∧ j < n)
    {g : JFrame} (hg : g.method = m) {rest : List Value} (hs : g.stack = .int j :: .ref a :: rest) (hd : decode c.code g.pc = .ok (.iaload, 1)) :
    ∀ t, Steps p.tables e below (T.setTop { g with pc := g.pc + 1, stack := .int (f j.toNatClampNeg) :: rest }) t → Steps p.tables e below (T.setTop g) t := by
  obtain ⟨cl, A, q1, q2, q3, H⟩ := F
  have hin := inb_of q2 hj
  exact fun t kt => X.iaload hx (j := j) (by rw [eT]; exact A.1) (State.isArrayOf_alike hZ.alike A.2.1) A.2.2 hin (H _ (Nat.lt_of_not_le fun y => hin (Or.inr y))) hg hs hd _ kt
theorem own_ldFB (X : Stand p l e R s m args below meth c T locs cells slots) (hx : p.tables.exec = Jvm.exec) (hZ : Z.Warmed39 s.vm) (eT : T.heap = h) (F : own_Arf Z h a k .byte n f) {j : Int32} (hj : ¬ j < 0 ∧ j < n)
    {g : JFrame} (hg : g.method = m) {rest : List Value} (hs : g.stack = .int j :: .ref a :: rest) (hd : decode c.code g.pc = .ok (.baload, 1)) :
    ∀ t, Steps p.tables e below (T.setTop { g with pc := g.pc + 1, stack := .int (f j.toNatClampNeg) :: rest }) t → Steps p.tables e below (T.setTop g) t := by
  obtain ⟨cl, A, q1, q2, q3, H⟩ := F
  have hin := inb_of q2 hj
  exact fun t kt => X.baloadBytes hx (j := j) (by rw [eT]; exact A.1) (State.isArrayOf_alike hZ.alike A.2.1) A.2.2 hin (H _ (Nat.lt_of_not_le fun y => hin (Or.inr y))) hg hs hd _ kt
theorem own_updF {c : Cell} {j : Int32} {x : Int32} (A : Arr Z h a c ty) (q1 : c.cls = k) (q2 : c.slots.size = n.toNatClampNeg) (q3 : ¬ n < 0) (H : ∀ i, i < c.slots.size → c.slots[i]? = some (.int (f i))) (W : Wr h h' a j.toNatClampNeg (.int x)) : own_Arf Z h' a k ty n (own_upd f j.toNatClampNeg x) := by
  refine ⟨_, A.same W, q1, by rw [sz_set]; exact q2, q3, fun i hi => ?_⟩
  rw [sz_set] at hi
  unfold own_upd
  by_cases e : i = j.toNatClampNeg
  · subst e; simp [Cell.setSlot, hi]
  · rw [if_neg e]; simp only [Cell.setSlot]; rw [Array.getElem?_setIfInBounds_ne (Ne.symm e)]; exact H i hi
theorem own_stFI (X : Stand p l e R s m args below meth c T locs cells slots) (hx : p.tables.exec = Jvm.exec) (hZ : Z.Warmed39 s.vm) (eT : T.heap = h) (F : own_Arf Z h a k .int n f) {j x : Int32} (hj : ¬ j < 0 ∧ j < n)
    {g : JFrame} (hg : g.method = m) {rest : List Value} (hs : g.stack = .int x :: .int j :: .ref a :: rest) (hd : decode c.code g.pc = .ok (.iastore, 1)) :
    ∃ T' h', Stand p l e R s m args below meth c T' (locs ++ [⟨a, j.toNatClampNeg⟩]) cells slots ∧ T'.heap = h' ∧ own_Arf Z h' a k .int n (own_upd f j.toNatClampNeg x) ∧ Wr h h' a j.toNatClampNeg (.int x) ∧ ∀ t, Steps p.tables e below (T'.setTop { g with pc := g.pc + 1, stack := rest }) t → Steps p.tables e below (T.setTop g) t := by
  obtain ⟨cl, A, q1, q2, q3, H⟩ := F
  obtain ⟨T', h', X', e', W, st⟩ := stI X hx hZ eT A (j := j) (inb_of q2 hj) hg hs hd
  exact ⟨T', h', X', e', own_updF A q1 q2 q3 H W, W, st⟩
theorem own_stFB (X : Stand p l e R s m args below meth c T locs cells slots) (hx : p.tables.exec = Jvm.exec) (hZ : Z.Warmed39 s.vm) (eT : T.heap = h) (F : own_Arf Z h a k .byte n f) {j x : Int32} (hj : ¬ j < 0 ∧ j < n)
    {g : JFrame} (hg : g.method = m) {rest : List Value} (hs : g.stack = .int x :: .int j :: .ref a :: rest) (hd : decode c.code g.pc = .ok (.bastore, 1)) :
    ∃ T' h', Stand p l e R s m args below meth c T' (locs ++ [⟨a, j.toNatClampNeg⟩]) cells slots ∧ T'.heap = h' ∧ own_Arf Z h' a k .byte n (own_upd f j.toNatClampNeg (nar .byte x)) ∧ Wr h h' a j.toNatClampNeg (.int (nar .byte x)) ∧ ∀ t, Steps p.tables e below (T'.setTop { g with pc := g.pc + 1, stack := rest }) t → Steps p.tables e below (T.setTop g) t := by
  obtain ⟨cl, A, q1, q2, q3, H⟩ := F
  obtain ⟨T', h', X', e', W, st⟩ := stB X hx hZ eT A (j := j) (inb_of q2 hj) hg hs hd
  exact ⟨T', h', X', e', own_updF A q1 q2 q3 H W, W, st⟩
end OwnF

theorem own_b1 {f : Int32} (h : f = 1) : some (Value.int (nar .boolean (1 : Int32))) = some (.int f) := by rw [h]; rfl
theorem own_b0 {f : Int32} (h : f = 0) : some (Value.int (nar .boolean (0 : Int32))) = some (.int f) := by rw [h]; rfl
def own_sur (c : Int32) : Int32 := if c < 55296 then 0 else if c < 57344 then 1 else 0
theorem own_cont64 : ∀ m : Fin 64, (Int32.ofInt (-128 + (m.val : Int))) &&& 192 = 128 := by decide +kernel
theorem own_cont {y : Int32} (h : 128 ≤ y.toInt) (h2 : y.toInt < 192) : (nar .byte (y.toInt8.toInt32)) &&& (192 : Int32) = 128 := by
  rw [own_nar]
  have h3 := c_i2b y
  have e : y.toInt8.toInt32 = Int32.ofInt (-128 + ((y.toInt - 128).toNat : Int)) := by
    apply Int32.toInt_inj.mp
    rw [Int32.toInt_ofInt_of_le (by omega) (by omega)]; omega
  rw [e]; exact own_cont64 ⟨(y.toInt - 128).toNat, by omega⟩
/-- a byte's low bits -/
theorem own_low (y m : Int32) (k : Nat) (hk : k ≤ 6) (hm : m.toBitVec.toNat = 2 ^ k - 1) : ((nar .byte (y.toInt8.toInt32)) &&& m).toInt = y.toInt % (2 ^ k : Nat) := by
  rw [own_nar, c_mask _ m k (by omega) hm]
  have h3 := c_i2b y
  have : k = 0 ∨ k = 1 ∨ k = 2 ∨ k = 3 ∨ k = 4 ∨ k = 5 ∨ k = 6 := by omega
  generalize y.toInt8.toInt32.toInt = a at *
  rcases this with rfl | rfl | rfl | rfl | rfl | rfl | rfl <;> (try simp) <;> (try omega)
theorem own_shr (cp : Int32) (k : Int32) (n : Nat) (hk : k.toBitVec.toNat % 32 = n) (h0 : 0 < n) (hc : 0 ≤ cp.toInt) : ((cp.toUInt32 >>> (k &&& 31).toUInt32).toInt32).toInt = cp.toInt / (2 ^ n : Nat) := by
  rw [c_iushr cp k n hk h0]
  have r := rng32 cp
  rw [Int.emod_eq_of_lt hc (by omega)]
theorem own_shl (x : Int32) (k : Int32) (n : Nat) (hk : k.toBitVec.toNat % 32 = n) (hx : 0 ≤ x.toInt) (hb : x.toInt * (2 ^ n : Nat) < 2147483648) : (x <<< (k &&& 31)).toInt = x.toInt * (2 ^ n : Nat) := by
  have h := c_ishl x k n hk
  have r := rng32 (x <<< (k &&& 31))
  have q : 0 ≤ x.toInt * (2 ^ n : Nat) := Int.mul_nonneg hx (Int.natCast_nonneg _)
  omega
theorem own_or (a b : Int32) (k : Nat) (hk : k ≤ 31) (h1 : a.toInt % (2 ^ k : Nat) = 0) (h2 : 0 ≤ b.toInt) (h3 : b.toInt < (2 ^ k : Nat)) (h4 : 0 ≤ a.toInt) (h5 : a.toInt + b.toInt < 2147483648) : (a ||| b).toInt = a.toInt + b.toInt := by
  have h := c_or a b k hk _ rfl h1 h2 h3
  have r := rng32 (a ||| b)
  omega
theorem own_low6 (cp : Int32) : ((128 : Int32) ||| (cp &&& (63 : Int32))).toInt = 128 + cp.toInt % 64 := by
  have h := c_mask cp 63 6 (by omega) (by decide)
  have h8 : ((2 ^ 6 : Nat) : Int) = 64 := by decide
  rw [h8] at h
  have q : (128 : Int32).toInt = 128 := by decide
  rw [own_or _ _ 6 (by omega) (by decide) (by omega) (by omega) (by decide) (by omega), q, h]

theorem own_mid (cp : Int32) (s : Int32) (n : Nat) (hk : s.toBitVec.toNat % 32 = n) (h0 : 0 < n) (hc : 0 ≤ cp.toInt) : ((128 : Int32) ||| (((cp.toUInt32 >>> (s &&& 31).toUInt32).toInt32) &&& (63 : Int32))).toInt = 128 + (cp.toInt / (2 ^ n : Nat)) % 64 := by
  rw [own_low6, own_shr cp s n hk h0 hc]
theorem own_top (cp : Int32) (t : Int32) (tv : Int) (s : Int32) (n : Nat) (j : Nat) (hj : j ≤ 31) (ht : t.toInt = tv) (ht0 : 0 ≤ tv) (htj : tv % (2 ^ j : Nat) = 0) (ht2 : tv < 1000) (hk : s.toBitVec.toNat % 32 = n) (h0 : 0 < n) (hc : 0 ≤ cp.toInt) (hq : cp.toInt / (2 ^ n : Nat) < (2 ^ j : Nat)) (hq2 : cp.toInt / (2 ^ n : Nat) < 1000) : (t ||| ((cp.toUInt32 >>> (s &&& 31).toUInt32).toInt32)).toInt = tv + cp.toInt / (2 ^ n : Nat) := by
  have h := own_shr cp s n hk h0 hc
  have q : 0 ≤ cp.toInt / (2 ^ n : Nat) := Int.ediv_nonneg hc (Int.natCast_nonneg _)
  rw [own_or _ _ j hj (by rw [ht]; exact htj) (by rw [h]; exact q) (by rw [h]; exact hq) (by omega) (by omega), ht, h]
theorem own_dec2 (cp : Int32) (h1 : 128 ≤ cp.toInt) (h2 : cp.toInt < 2048) : ((((nar .byte (((192 : Int32) ||| ((cp.toUInt32 >>> ((6 : Int32) &&& 31).toUInt32).toInt32)).toInt8.toInt32)) &&& (31 : Int32)) <<< ((6 : Int32) &&& 31)) ||| ((nar .byte (((128 : Int32) ||| (cp &&& (63 : Int32))).toInt8.toInt32)) &&& (63 : Int32))) = cp ∧ (nar .byte (((128 : Int32) ||| (cp &&& (63 : Int32))).toInt8.toInt32)) &&& (192 : Int32) = 128 := by
  have e0 := own_top cp 192 192 6 6 5 (by omega) (by decide) (by decide) (by decide) (by decide) (by decide) (by decide) (by omega) (by simp; omega) (by simp; omega)
  have e1 := own_low6 cp
  have p6 : ((2 ^ 6 : Nat) : Int) = 64 := by decide
  have p5 : ((2 ^ 5 : Nat) : Int) = 32 := by decide
  rw [p6] at e0
  refine ⟨?_, own_cont (by omega) (by omega)⟩
  have l0 := own_low ((192 : Int32) ||| ((cp.toUInt32 >>> ((6 : Int32) &&& 31).toUInt32).toInt32)) 31 5 (by omega) (by decide)
  have l1 := own_low ((128 : Int32) ||| (cp &&& (63 : Int32))) 63 6 (by omega) (by decide)
  rw [p5] at l0; rw [p6] at l1
  generalize ((nar .byte (((192 : Int32) ||| ((cp.toUInt32 >>> ((6 : Int32) &&& 31).toUInt32).toInt32)).toInt8.toInt32)) &&& (31 : Int32)) = z0 at *
  generalize ((nar .byte (((128 : Int32) ||| (cp &&& (63 : Int32))).toInt8.toInt32)) &&& (63 : Int32)) = z1 at *
  have s0 := own_shl z0 6 6 (by decide) (by omega) (by rw [p6]; omega)
  rw [p6] at s0
  apply Int32.toInt_inj.mp
  rw [own_or _ _ 6 (by omega) (by rw [p6]; omega) (by omega) (by rw [p6]; omega) (by omega) (by omega)]
  omega

theorem own_dec3 (cp : Int32) (h1 : 2048 ≤ cp.toInt) (h2 : cp.toInt < 65536) : (((((nar .byte (((224 : Int32) ||| ((cp.toUInt32 >>> ((12 : Int32) &&& 31).toUInt32).toInt32)).toInt8.toInt32)) &&& (15 : Int32)) <<< ((12 : Int32) &&& 31)) ||| (((nar .byte (((128 : Int32) ||| (((cp.toUInt32 >>> ((6 : Int32) &&& 31).toUInt32).toInt32) &&& (63 : Int32))).toInt8.toInt32)) &&& (63 : Int32)) <<< ((6 : Int32) &&& 31))) ||| ((nar .byte (((128 : Int32) ||| (cp &&& (63 : Int32))).toInt8.toInt32)) &&& (63 : Int32))) = cp ∧ (nar .byte (((128 : Int32) ||| (((cp.toUInt32 >>> ((6 : Int32) &&& 31).toUInt32).toInt32) &&& (63 : Int32))).toInt8.toInt32)) &&& (192 : Int32) = 128 ∧ (nar .byte (((128 : Int32) ||| (cp &&& (63 : Int32))).toInt8.toInt32)) &&& (192 : Int32) = 128 := by
  have p6 : ((2 ^ 6 : Nat) : Int) = 64 := by decide
  have p4 : ((2 ^ 4 : Nat) : Int) = 16 := by decide
  have p12 : ((2 ^ 12 : Nat) : Int) = 4096 := by decide
  have e0 := own_top cp 224 224 12 12 4 (by omega) (by decide) (by decide) (by decide) (by decide) (by decide) (by decide) (by omega) (by rw [p12, p4]; omega) (by rw [p12]; omega)
  have e1 := own_mid cp 6 6 (by decide) (by decide) (by omega)
  have e2 := own_low6 cp
  rw [p12] at e0; rw [p6] at e1
  refine ⟨?_, own_cont (by omega) (by omega), own_cont (by omega) (by omega)⟩
  have l0 := own_low ((224 : Int32) ||| ((cp.toUInt32 >>> ((12 : Int32) &&& 31).toUInt32).toInt32)) 15 4 (by omega) (by decide)
  have l1 := own_low ((128 : Int32) ||| (((cp.toUInt32 >>> ((6 : Int32) &&& 31).toUInt32).toInt32) &&& (63 : Int32))) 63 6 (by omega) (by decide)
  have l2 := own_low ((128 : Int32) ||| (cp &&& (63 : Int32))) 63 6 (by omega) (by decide)
  rw [p4] at l0; rw [p6] at l1 l2
  generalize ((nar .byte (((224 : Int32) ||| ((cp.toUInt32 >>> ((12 : Int32) &&& 31).toUInt32).toInt32)).toInt8.toInt32)) &&& (15 : Int32)) = z0 at *
  generalize ((nar .byte (((128 : Int32) ||| (((cp.toUInt32 >>> ((6 : Int32) &&& 31).toUInt32).toInt32) &&& (63 : Int32))).toInt8.toInt32)) &&& (63 : Int32)) = z1 at *
  generalize ((nar .byte (((128 : Int32) ||| (cp &&& (63 : Int32))).toInt8.toInt32)) &&& (63 : Int32)) = z2 at *
  have s0 := own_shl z0 12 12 (by decide) (by omega) (by rw [p12]; omega)
  have s1 := own_shl z1 6 6 (by decide) (by omega) (by rw [p6]; omega)
  rw [p12] at s0; rw [p6] at s1
  generalize (z0 <<< ((12 : Int32) &&& 31)) = w0 at *
  generalize (z1 <<< ((6 : Int32) &&& 31)) = w1 at *
  have o1 := own_or w0 w1 12 (by omega) (by rw [p12]; omega) (by omega) (by rw [p12]; omega) (by omega) (by omega)
  generalize (w0 ||| w1) = w2 at *
  apply Int32.toInt_inj.mp
  rw [own_or w2 z2 6 (by omega) (by rw [p6]; omega) (by omega) (by rw [p6]; omega) (by omega) (by omega)]
  omega
theorem own_dec4 (cp : Int32) (h1 : 65536 ≤ cp.toInt) (h2 : cp.toInt < 1114112) : ((((((nar .byte (((240 : Int32) ||| ((cp.toUInt32 >>> ((18 : Int32) &&& 31).toUInt32).toInt32)).toInt8.toInt32)) &&& (7 : Int32)) <<< ((18 : Int32) &&& 31)) ||| (((nar .byte (((128 : Int32) ||| (((cp.toUInt32 >>> ((12 : Int32) &&& 31).toUInt32).toInt32) &&& (63 : Int32))).toInt8.toInt32)) &&& (63 : Int32)) <<< ((12 : Int32) &&& 31))) ||| (((nar .byte (((128 : Int32) ||| (((cp.toUInt32 >>> ((6 : Int32) &&& 31).toUInt32).toInt32) &&& (63 : Int32))).toInt8.toInt32)) &&& (63 : Int32)) <<< ((6 : Int32) &&& 31))) ||| ((nar .byte (((128 : Int32) ||| (cp &&& (63 : Int32))).toInt8.toInt32)) &&& (63 : Int32))) = cp ∧ (nar .byte (((128 : Int32) ||| (((cp.toUInt32 >>> ((12 : Int32) &&& 31).toUInt32).toInt32) &&& (63 : Int32))).toInt8.toInt32)) &&& (192 : Int32) = 128 ∧ (nar .byte (((128 : Int32) ||| (((cp.toUInt32 >>> ((6 : Int32) &&& 31).toUInt32).toInt32) &&& (63 : Int32))).toInt8.toInt32)) &&& (192 : Int32) = 128 ∧ (nar .byte (((128 : Int32) ||| (cp &&& (63 : Int32))).toInt8.toInt32)) &&& (192 : Int32) = 128 := by
  have p6 : ((2 ^ 6 : Nat) : Int) = 64 := by decide
  have p3 : ((2 ^ 3 : Nat) : Int) = 8 := by decide
  have p12 : ((2 ^ 12 : Nat) : Int) = 4096 := by decide
  have p18 : ((2 ^ 18 : Nat) : Int) = 262144 := by decide
  have e0 := own_top cp 240 240 18 18 3 (by omega) (by decide) (by decide) (by decide) (by decide) (by decide) (by decide) (by omega) (by rw [p18, p3]; omega) (by rw [p18]; omega)
  have e1 := own_mid cp 12 12 (by decide) (by decide) (by omega)
  have e2 := own_mid cp 6 6 (by decide) (by decide) (by omega)
  have e3 := own_low6 cp
  rw [p18] at e0; rw [p12] at e1; rw [p6] at e2
  refine ⟨?_, own_cont (by omega) (by omega), own_cont (by omega) (by omega), own_cont (by omega) (by omega)⟩
  have l0 := own_low ((240 : Int32) ||| ((cp.toUInt32 >>> ((18 : Int32) &&& 31).toUInt32).toInt32)) 7 3 (by omega) (by decide)
  have l1 := own_low ((128 : Int32) ||| (((cp.toUInt32 >>> ((12 : Int32) &&& 31).toUInt32).toInt32) &&& (63 : Int32))) 63 6 (by omega) (by decide)
  have l2 := own_low ((128 : Int32) ||| (((cp.toUInt32 >>> ((6 : Int32) &&& 31).toUInt32).toInt32) &&& (63 : Int32))) 63 6 (by omega) (by decide)
  have l3 := own_low ((128 : Int32) ||| (cp &&& (63 : Int32))) 63 6 (by omega) (by decide)
  rw [p3] at l0; rw [p6] at l1 l2 l3
  generalize ((nar .byte (((240 : Int32) ||| ((cp.toUInt32 >>> ((18 : Int32) &&& 31).toUInt32).toInt32)).toInt8.toInt32)) &&& (7 : Int32)) = z0 at *
  generalize ((nar .byte (((128 : Int32) ||| (((cp.toUInt32 >>> ((12 : Int32) &&& 31).toUInt32).toInt32) &&& (63 : Int32))).toInt8.toInt32)) &&& (63 : Int32)) = z1 at *
  generalize ((nar .byte (((128 : Int32) ||| (((cp.toUInt32 >>> ((6 : Int32) &&& 31).toUInt32).toInt32) &&& (63 : Int32))).toInt8.toInt32)) &&& (63 : Int32)) = z2 at *
  generalize ((nar .byte (((128 : Int32) ||| (cp &&& (63 : Int32))).toInt8.toInt32)) &&& (63 : Int32)) = z3 at *
  have s0 := own_shl z0 18 18 (by decide) (by omega) (by rw [p18]; omega)
  have s1 := own_shl z1 12 12 (by decide) (by omega) (by rw [p12]; omega)
  have s2 := own_shl z2 6 6 (by decide) (by omega) (by rw [p6]; omega)
  rw [p18] at s0; rw [p12] at s1; rw [p6] at s2
  generalize (z0 <<< ((18 : Int32) &&& 31)) = w0 at *
  generalize (z1 <<< ((12 : Int32) &&& 31)) = w1 at *
  generalize (z2 <<< ((6 : Int32) &&& 31)) = w2 at *
  have o1 := own_or w0 w1 18 (by omega) (by rw [p18]; omega) (by omega) (by rw [p18]; omega) (by omega) (by omega)
  generalize (w0 ||| w1) = v1 at *
  have o2 := own_or v1 w2 12 (by omega) (by rw [p12]; omega) (by omega) (by rw [p12]; omega) (by omega) (by omega)
  generalize (v1 ||| w2) = v2 at *
  apply Int32.toInt_inj.mp
  rw [own_or v2 z3 6 (by omega) (by rw [p6]; omega) (by omega) (by rw [p6]; omega) (by omega) (by omega)]
  omega
theorem own_nn (x : Int32) : 0 ≤ (x &&& 2147483647).toInt := by
  have h1 := c_mask x 2147483647 31 (by omega) (by decide)
  rw [h1]; exact Int.emod_nonneg _ (by decide)
theorem own_rem {x y : Int32} {d : Int} (hy : y.toInt = d) (hx : 0 ≤ x.toInt) (hd : 0 < d) : 0 ≤ (x % y).toInt ∧ (x % y).toInt < d := by
  have h := (c_irem x y d hy).1 hx
  rw [h]; exact ⟨Int.emod_nonneg _ (by omega), Int.emod_lt_of_pos _ hd⟩
theorem own_off {b x y : Int32} {d bv : Int} (hb : b.toInt = bv) (hy : y.toInt = d) (hx : 0 ≤ x.toInt) (hd : 0 < d) (hb0 : 0 ≤ bv) (hs : bv + d < 2147483648) : bv ≤ (b + x % y).toInt ∧ (b + x % y).toInt < bv + d := by
  have h := own_rem hy hx hd
  have h2 := c_iadd b (x % y)
  have r := rng32 (b + x % y)
  omega
theorem own_l3 (x : Int32) : (2 : Int32) + ((x &&& 2147483647) % 3) = 2 ∨ (2 : Int32) + ((x &&& 2147483647) % 3) = 3 ∨ (2 : Int32) + ((x &&& 2147483647) % 3) = 4 := by
  have h := own_off (b := 2) (y := 3) (bv := 2) (d := 3) (by decide) (by decide) (own_nn x) (by decide) (by decide) (by decide)
  have q : ∀ k : Int32, ((2 : Int32) + ((x &&& 2147483647) % 3)).toInt = k.toInt → (2 : Int32) + ((x &&& 2147483647) % 3) = k := fun k => Int32.toInt_inj.mp
  rcases (by omega : ((2 : Int32) + ((x &&& 2147483647) % 3)).toInt = 2 ∨ ((2 : Int32) + ((x &&& 2147483647) % 3)).toInt = 3 ∨ ((2 : Int32) + ((x &&& 2147483647) % 3)).toInt = 4) with h | h | h
  · exact Or.inl (q 2 (by rw [h]; decide))
  · exact Or.inr (Or.inl (q 3 (by rw [h]; decide)))
  · exact Or.inr (Or.inr (q 4 (by rw [h]; decide)))
theorem own_ix {t i : Int32} {iv d : Int} (hi : i.toInt = iv) (h : 0 ≤ t.toInt ∧ t.toInt < d) (h0 : 0 ≤ iv) (hd : d + iv ≤ 6) : (¬ (t + i) < 0 ∧ (t + i) < 6) ∧ (t + i).toNatClampNeg = t.toNatClampNeg + iv.toNat := by
  have h2 := c_iadd t i
  have r := rng32 (t + i)
  have q0 : (0 : Int32).toInt = 0 := by decide
  have q6 : (6 : Int32).toInt = 6 := by decide
  have e1 : (t + i).toNatClampNeg = (t + i).toInt.toNat := rfl
  have e2 : t.toNatClampNeg = t.toInt.toNat := rfl
  rw [Int32.lt_iff_toInt_lt, Int32.lt_iff_toInt_lt]
  omega
theorem own_ix0 {t : Int32} {d : Int} (h : 0 ≤ t.toInt ∧ t.toInt < d) (hd : d ≤ 6) : ¬ t < 0 ∧ t < 6 := by
  have q0 : (0 : Int32).toInt = 0 := by decide
  have q6 : (6 : Int32).toInt = 6 := by decide
  rw [Int32.lt_iff_toInt_lt, Int32.lt_iff_toInt_lt]
  omega
theorem own_nlt {x y : Int32} {d : Int} (hy : y.toInt = d) (h : d ≤ x.toInt) : ¬ x < y := by rw [Int32.lt_iff_toInt_lt]; omega
theorem own_ngt {x y : Int32} {d : Int} (hy : y.toInt = d) (h : x.toInt ≤ d) : ¬ y < x := by rw [Int32.lt_iff_toInt_lt]; omega
theorem own_i2c {x : Int32} (h : 0 ≤ x.toInt ∧ x.toInt < 65536) : x.toUInt32.toUInt16.toUInt32.toInt32 = x := by
  have h1 := c_i2c x
  apply Int32.toInt_inj.mp; omega
theorem own_nosur {x : Int32} (h : 0 ≤ x.toInt ∧ x.toInt < 65536) (hs : x < 55296 ∨ ¬ x < 57344) : own_sur (x.toUInt32.toUInt16.toUInt32.toInt32) = 0 := by
  rw [own_i2c h]; unfold own_sur
  rcases hs with hs | hs
  · rw [if_pos hs]
  · by_cases q : x < 55296
    · rw [if_pos q]
    · rw [if_neg q, if_neg hs]
theorem own_su (x : Int32) : (if x = (0 : Int32) then (0 : Int32) else (1 : Int32)) = 0 ∨ (if x = (0 : Int32) then (0 : Int32) else (1 : Int32)) = 1 := by
  by_cases h : x = 0
  · left; rw [if_pos h]
  · right; rw [if_neg h]
theorem d1_0 : decode prog_7_method_7_code 0 = .ok (.iload_n 0, 1) := by decide +kernel
theorem d1_1 : decode prog_7_method_7_code 1 = .ok (.sipush 192, 3) := by decide +kernel
theorem d1_4 : decode prog_7_method_7_code 4 = .ok (.iand, 1) := by decide +kernel
theorem d1_5 : decode prog_7_method_7_code 5 = .ok (.sipush 128, 3) := by decide +kernel
theorem d1_8 : decode prog_7_method_7_code 8 = .ok (.if_icmp .eq 12, 3) := by decide +kernel
theorem d1_11 : decode prog_7_method_7_code 11 = .ok (.new 48, 3) := by decide +kernel
theorem d1_14 : decode prog_7_method_7_code 14 = .ok (.dup, 1) := by decide +kernel
theorem d1_15 : decode prog_7_method_7_code 15 = .ok (.iconst 1, 1) := by decide +kernel
theorem d1_16 : decode prog_7_method_7_code 16 = .ok (.invokespecial 50, 3) := by decide +kernel
theorem d1_19 : decode prog_7_method_7_code 19 = .ok (.athrow, 1) := by decide +kernel
theorem d1_20 : decode prog_7_method_7_code 20 = .ok (.iload_n 0, 1) := by decide +kernel
theorem d1_21 : decode prog_7_method_7_code 21 = .ok (.bipush 63, 2) := by decide +kernel
theorem d1_23 : decode prog_7_method_7_code 23 = .ok (.iand, 1) := by decide +kernel
theorem d1_24 : decode prog_7_method_7_code 24 = .ok (.ireturn, 1) := by decide +kernel
theorem pn_1 : plainFor (⟨"com/example/amphion/amphion/Utf8Reader", "continuation", "(B)I"⟩ : MethodName) = true := plainFor_of_name (by first | (simp [plainName, overriddenIn]; done) | decide +kernel)
theorem ef_1 (m : MethodId) (x0 : Int32) : entryFrame m #[(.int x0)] 1 = mkF m 0 #[.val (.int x0)] [] := by first | (simp [entryFrame, mkF, argsToLocals, Value.category]; done) | rfl
set_option maxRecDepth 65536 in
set_option maxHeartbeats 40000000 in
theorem rm1 (l : Launch) (Z : State) (a0 : Array Value) (hw : ∀ d ∈ tables_1, d.before a0 Z = true) (p1 : Int32)  (h0 : Heap) (n0 : Nat) (Z0 : n0 ≤ h0.size) (H : p1 &&& (192 : Int32) = 128) :
    own_Met l Z [] (⟨"com/example/amphion/amphion/Utf8Reader", "continuation", "(B)I"⟩ : MethodName) prog_7_method_7_code 1 (some .int) ({ frames := 0, cells := 0, slots := 0, locals := 0 } : Room) #[(.int p1)] h0 (own_QP (some (.int (p1 &&& (63 : Int32)))) h0 n0) := by
  refine own_enter pn_1 ?_
  intro p e s m below meth c s₁ X0 hx hby hml hown hret hlk hnm hZ e0
  have hml : c.maxLocals = 1 := hml
  have N0 := Fr.nil n0
  rw [ef_1 m p1]
  show own_Fin p e below s _ _ _ (s₁.setTop (mkF m 0 #[.val (.int p1)] []))
  refine own_Fin.step (fun _ => XS.iloadN X0.here hx rfl (hb hby d1_0) rfl) ?_
  show own_Fin p e below s _ _ _ (s₁.setTop (mkF m 1 #[.val (.int p1)] [(.int p1)]))
  refine own_Fin.step (fun _ => XS.sipush X0.here hx rfl (hb hby d1_1)) ?_
  show own_Fin p e below s _ _ _ (s₁.setTop (mkF m 4 #[.val (.int p1)] [(.int (192 : Int32)), (.int p1)]))
  refine own_Fin.step (fun _ => XS.iand X0.here hx rfl (hb hby d1_4) rfl) ?_
  show own_Fin p e below s _ _ _ (s₁.setTop (mkF m 5 #[.val (.int p1)] [(.int (p1 &&& (192 : Int32)))]))
  refine own_Fin.step (fun _ => XS.sipush X0.here hx rfl (hb hby d1_5)) ?_
  show own_Fin p e below s _ _ _ (s₁.setTop (mkF m 8 #[.val (.int p1)] [(.int (128 : Int32)), (.int (p1 &&& (192 : Int32)))]))
  refine own_Fin.step (fun _ => XS.icmpYes X0.here hx rfl (pc0 := 8) (pc' := 20) rfl (hb hby d1_8) rfl (XT.ii_eq_t H) (by decide) (by decide)) ?_
  show own_Fin p e below s _ _ _ (s₁.setTop (mkF m 20 #[.val (.int p1)] []))
  refine own_Fin.step (fun _ => XS.iloadN X0.here hx rfl (hb hby d1_20) rfl) ?_
  show own_Fin p e below s _ _ _ (s₁.setTop (mkF m 21 #[.val (.int p1)] [(.int p1)]))
  refine own_Fin.step (fun _ => XS.bipush X0.here hx rfl (hb hby d1_21)) ?_
  show own_Fin p e below s _ _ _ (s₁.setTop (mkF m 23 #[.val (.int p1)] [(.int (63 : Int32)), (.int p1)]))
  refine own_Fin.step (fun _ => XS.iand X0.here hx rfl (hb hby d1_23) rfl) ?_
  show own_Fin p e below s _ _ _ (s₁.setTop (mkF m 24 #[.val (.int p1)] [(.int (p1 &&& (63 : Int32)))]))
  exact own_retI X0 hx hlk hret (hb hby d1_24) ⟨rfl, N0, e0⟩ (by decide) (by decide)
theorem d2_0 : decode jdk_89_method_16_code 0 = .ok (.iload_n 0, 1) := by decide +kernel
theorem d2_1 : decode jdk_89_method_16_code 1 = .ok (.ldc 75, 2) := by decide +kernel
theorem d2_3 : decode jdk_89_method_16_code 3 = .ok (.if_icmp .lt 13, 3) := by decide +kernel
theorem d2_6 : decode jdk_89_method_16_code 6 = .ok (.iload_n 0, 1) := by decide +kernel
theorem d2_7 : decode jdk_89_method_16_code 7 = .ok (.ldc 77, 2) := by decide +kernel
theorem d2_9 : decode jdk_89_method_16_code 9 = .ok (.if_icmp .ge 7, 3) := by decide +kernel
theorem d2_12 : decode jdk_89_method_16_code 12 = .ok (.iconst 1, 1) := by decide +kernel
theorem d2_13 : decode jdk_89_method_16_code 13 = .ok (.goto 4, 3) := by decide +kernel
theorem d2_16 : decode jdk_89_method_16_code 16 = .ok (.iconst 0, 1) := by decide +kernel
theorem d2_17 : decode jdk_89_method_16_code 17 = .ok (.ireturn, 1) := by decide +kernel
theorem pn_2 : plainFor (⟨"java/lang/Character", "isSurrogate", "(C)Z"⟩ : MethodName) = true := plainFor_of_name (by first | (simp [plainName, overriddenIn]; done) | decide +kernel)
theorem ef_2 (m : MethodId) (x0 : Int32) : entryFrame m #[(.int x0)] 1 = mkF m 0 #[.val (.int x0)] [] := by first | (simp [entryFrame, mkF, argsToLocals, Value.category]; done) | rfl
set_option maxRecDepth 65536 in
set_option maxHeartbeats 40000000 in
theorem rm2 (l : Launch) (Z : State) (a0 : Array Value) (hw : ∀ d ∈ tables_1, d.before a0 Z = true) (p1 : Int32)  (h0 : Heap) (n0 : Nat) (Z0 : n0 ≤ h0.size)  :
    own_Met l Z [] (⟨"java/lang/Character", "isSurrogate", "(C)Z"⟩ : MethodName) jdk_89_method_16_code 1 (some .boolean) ({ frames := 0, cells := 0, slots := 0, locals := 0 } : Room) #[(.int p1)] h0 (own_QP (some (.int (own_sur p1))) h0 n0) := by
  refine own_enter pn_2 ?_
  intro p e s m below meth c s₁ X0 hx hby hml hown hret hlk hnm hZ e0
  have hml : c.maxLocals = 1 := hml
  have N0 := Fr.nil n0
  rw [ef_2 m p1]
  show own_Fin p e below s _ _ _ (s₁.setTop (mkF m 0 #[.val (.int p1)] []))
  refine own_Fin.step (fun _ => XS.iloadN X0.here hx rfl (hb hby d2_0) rfl) ?_
  show own_Fin p e below s _ _ _ (s₁.setTop (mkF m 1 #[.val (.int p1)] [(.int p1)]))
  refine own_Fin.step (X0.ldcInt hx hown (mvT hZ (own_w hw 19 rfl)) (g := (mkF m 1 #[.val (.int p1)] [(.int p1)])) rfl (hb hby d2_1)) ?_
  show own_Fin p e below s _ _ _ (s₁.setTop (mkF m 3 #[.val (.int p1)] [(.int (55296 : Int32)), (.int p1)]))
  by_cases hc3_1 : p1 < (55296 : Int32)
  ·
    refine own_Fin.step (fun _ => XS.icmpYes X0.here hx rfl (pc0 := 3) (pc' := 16) rfl (hb hby d2_3) rfl (XT.ii_lt_t hc3_1) (by decide) (by decide)) ?_
    show own_Fin p e below s _ _ _ (s₁.setTop (mkF m 16 #[.val (.int p1)] []))
    refine own_Fin.step (fun _ => XS.iconst X0.here hx rfl (hb hby d2_16)) ?_
    show own_Fin p e below s _ _ _ (s₁.setTop (mkF m 17 #[.val (.int p1)] [(.int (0 : Int32))]))
    exact own_retN X0 hx hlk (t := .boolean) hret (by simp) (hb hby d2_17) ⟨own_b0 (by unfold own_sur; rw [if_pos hc3_1]), N0, e0⟩ (by decide) (by decide)
  ·
    refine own_Fin.step (fun _ => XS.icmpNo X0.here hx rfl (hb hby d2_3) rfl (XT.ii_lt_f hc3_1)) ?_
    show own_Fin p e below s _ _ _ (s₁.setTop (mkF m 6 #[.val (.int p1)] []))
    refine own_Fin.step (fun _ => XS.iloadN X0.here hx rfl (hb hby d2_6) rfl) ?_
    show own_Fin p e below s _ _ _ (s₁.setTop (mkF m 7 #[.val (.int p1)] [(.int p1)]))
    refine own_Fin.step (X0.ldcInt hx hown (mvT hZ (own_w hw 21 rfl)) (g := (mkF m 7 #[.val (.int p1)] [(.int p1)])) rfl (hb hby d2_7)) ?_
    show own_Fin p e below s _ _ _ (s₁.setTop (mkF m 9 #[.val (.int p1)] [(.int (57344 : Int32)), (.int p1)]))
    by_cases hc9_2 : p1 < (57344 : Int32)
    ·
      refine own_Fin.step (fun _ => XS.icmpNo X0.here hx rfl (hb hby d2_9) rfl (XT.ii_ge_f hc9_2)) ?_
      show own_Fin p e below s _ _ _ (s₁.setTop (mkF m 12 #[.val (.int p1)] []))
      refine own_Fin.step (fun _ => XS.iconst X0.here hx rfl (hb hby d2_12)) ?_
      show own_Fin p e below s _ _ _ (s₁.setTop (mkF m 13 #[.val (.int p1)] [(.int (1 : Int32))]))
      refine own_Fin.step (fun _ => XS.goto X0.here hx rfl (pc0 := 13) (pc' := 17) rfl (hb hby d2_13) (by decide) (by decide)) ?_
      show own_Fin p e below s _ _ _ (s₁.setTop (mkF m 17 #[.val (.int p1)] [(.int (1 : Int32))]))
      exact own_retN X0 hx hlk (t := .boolean) hret (by simp) (hb hby d2_17) ⟨own_b1 (by unfold own_sur; rw [if_neg hc3_1, if_pos hc9_2]), N0, e0⟩ (by decide) (by decide)
    ·
      refine own_Fin.step (fun _ => XS.icmpYes X0.here hx rfl (pc0 := 9) (pc' := 16) rfl (hb hby d2_9) rfl (XT.ii_ge_t hc9_2) (by decide) (by decide)) ?_
      show own_Fin p e below s _ _ _ (s₁.setTop (mkF m 16 #[.val (.int p1)] []))
      refine own_Fin.step (fun _ => XS.iconst X0.here hx rfl (hb hby d2_16)) ?_
      show own_Fin p e below s _ _ _ (s₁.setTop (mkF m 17 #[.val (.int p1)] [(.int (0 : Int32))]))
      exact own_retN X0 hx hlk (t := .boolean) hret (by simp) (hb hby d2_17) ⟨own_b0 (by unfold own_sur; rw [if_neg hc3_1, if_neg hc9_2]), N0, e0⟩ (by decide) (by decide)
theorem d3_0 : decode prog_7_method_6_code 0 = .ok (.aload_n 0, 1) := by decide +kernel
theorem d3_1 : decode prog_7_method_6_code 1 = .ok (.iload_n 1, 1) := by decide +kernel
theorem d3_2 : decode prog_7_method_6_code 2 = .ok (.baload, 1) := by decide +kernel
theorem d3_3 : decode prog_7_method_6_code 3 = .ok (.istore 4, 2) := by decide +kernel
theorem d3_5 : decode prog_7_method_6_code 5 = .ok (.iload_n 2, 1) := by decide +kernel
theorem d3_6 : decode prog_7_method_6_code 6 = .ok (.iconst 2, 1) := by decide +kernel
theorem d3_7 : decode prog_7_method_6_code 7 = .ok (.if_icmp .ne 21, 3) := by decide +kernel
theorem d3_10 : decode prog_7_method_6_code 10 = .ok (.iload 4, 2) := by decide +kernel
theorem d3_12 : decode prog_7_method_6_code 12 = .ok (.bipush 31, 2) := by decide +kernel
theorem d3_14 : decode prog_7_method_6_code 14 = .ok (.iand, 1) := by decide +kernel
theorem d3_15 : decode prog_7_method_6_code 15 = .ok (.bipush 6, 2) := by decide +kernel
theorem d3_17 : decode prog_7_method_6_code 17 = .ok (.ishl, 1) := by decide +kernel
theorem d3_18 : decode prog_7_method_6_code 18 = .ok (.aload_n 0, 1) := by decide +kernel
theorem d3_19 : decode prog_7_method_6_code 19 = .ok (.iload_n 1, 1) := by decide +kernel
theorem d3_20 : decode prog_7_method_6_code 20 = .ok (.iconst 1, 1) := by decide +kernel
theorem d3_21 : decode prog_7_method_6_code 21 = .ok (.iadd, 1) := by decide +kernel
theorem d3_22 : decode prog_7_method_6_code 22 = .ok (.baload, 1) := by decide +kernel
theorem d3_23 : decode prog_7_method_6_code 23 = .ok (.invokestatic 80, 3) := by decide +kernel
theorem d3_26 : decode prog_7_method_6_code 26 = .ok (.ior, 1) := by decide +kernel
theorem d3_27 : decode prog_7_method_6_code 27 = .ok (.ireturn, 1) := by decide +kernel
theorem d3_28 : decode prog_7_method_6_code 28 = .ok (.iload_n 2, 1) := by decide +kernel
theorem d3_29 : decode prog_7_method_6_code 29 = .ok (.iconst 3, 1) := by decide +kernel
theorem d3_30 : decode prog_7_method_6_code 30 = .ok (.if_icmp .ne 67, 3) := by decide +kernel
theorem d3_33 : decode prog_7_method_6_code 33 = .ok (.iload 4, 2) := by decide +kernel
theorem d3_35 : decode prog_7_method_6_code 35 = .ok (.bipush 15, 2) := by decide +kernel
theorem d3_37 : decode prog_7_method_6_code 37 = .ok (.iand, 1) := by decide +kernel
theorem d3_38 : decode prog_7_method_6_code 38 = .ok (.bipush 12, 2) := by decide +kernel
theorem d3_40 : decode prog_7_method_6_code 40 = .ok (.ishl, 1) := by decide +kernel
theorem d3_41 : decode prog_7_method_6_code 41 = .ok (.aload_n 0, 1) := by decide +kernel
theorem d3_42 : decode prog_7_method_6_code 42 = .ok (.iload_n 1, 1) := by decide +kernel
theorem d3_43 : decode prog_7_method_6_code 43 = .ok (.iconst 1, 1) := by decide +kernel
theorem d3_44 : decode prog_7_method_6_code 44 = .ok (.iadd, 1) := by decide +kernel
theorem d3_45 : decode prog_7_method_6_code 45 = .ok (.baload, 1) := by decide +kernel
theorem d3_46 : decode prog_7_method_6_code 46 = .ok (.invokestatic 80, 3) := by decide +kernel
theorem d3_49 : decode prog_7_method_6_code 49 = .ok (.bipush 6, 2) := by decide +kernel
theorem d3_51 : decode prog_7_method_6_code 51 = .ok (.ishl, 1) := by decide +kernel
theorem d3_52 : decode prog_7_method_6_code 52 = .ok (.ior, 1) := by decide +kernel
theorem d3_53 : decode prog_7_method_6_code 53 = .ok (.aload_n 0, 1) := by decide +kernel
theorem d3_54 : decode prog_7_method_6_code 54 = .ok (.iload_n 1, 1) := by decide +kernel
theorem d3_55 : decode prog_7_method_6_code 55 = .ok (.iconst 2, 1) := by decide +kernel
theorem d3_56 : decode prog_7_method_6_code 56 = .ok (.iadd, 1) := by decide +kernel
theorem d3_57 : decode prog_7_method_6_code 57 = .ok (.baload, 1) := by decide +kernel
theorem d3_58 : decode prog_7_method_6_code 58 = .ok (.invokestatic 80, 3) := by decide +kernel
theorem d3_61 : decode prog_7_method_6_code 61 = .ok (.ior, 1) := by decide +kernel
theorem d3_62 : decode prog_7_method_6_code 62 = .ok (.istore 5, 2) := by decide +kernel
theorem d3_64 : decode prog_7_method_6_code 64 = .ok (.iload 5, 2) := by decide +kernel
theorem d3_66 : decode prog_7_method_6_code 66 = .ok (.sipush 2048, 3) := by decide +kernel
theorem d3_69 : decode prog_7_method_6_code 69 = .ok (.if_icmp .lt 16, 3) := by decide +kernel
theorem d3_72 : decode prog_7_method_6_code 72 = .ok (.iload_n 3, 1) := by decide +kernel
theorem d3_73 : decode prog_7_method_6_code 73 = .ok (.ifCond .ne 21, 3) := by decide +kernel
theorem d3_76 : decode prog_7_method_6_code 76 = .ok (.iload 5, 2) := by decide +kernel
theorem d3_78 : decode prog_7_method_6_code 78 = .ok (.i2c, 1) := by decide +kernel
theorem d3_79 : decode prog_7_method_6_code 79 = .ok (.invokestatic 84, 3) := by decide +kernel
theorem d3_82 : decode prog_7_method_6_code 82 = .ok (.ifCond .eq 12, 3) := by decide +kernel
theorem d3_85 : decode prog_7_method_6_code 85 = .ok (.new 48, 3) := by decide +kernel
theorem d3_88 : decode prog_7_method_6_code 88 = .ok (.dup, 1) := by decide +kernel
theorem d3_89 : decode prog_7_method_6_code 89 = .ok (.iload_n 2, 1) := by decide +kernel
theorem d3_90 : decode prog_7_method_6_code 90 = .ok (.invokespecial 50, 3) := by decide +kernel
theorem d3_93 : decode prog_7_method_6_code 93 = .ok (.athrow, 1) := by decide +kernel
theorem d3_94 : decode prog_7_method_6_code 94 = .ok (.iload 5, 2) := by decide +kernel
theorem d3_96 : decode prog_7_method_6_code 96 = .ok (.ireturn, 1) := by decide +kernel
theorem d3_97 : decode prog_7_method_6_code 97 = .ok (.iload 4, 2) := by decide +kernel
theorem d3_99 : decode prog_7_method_6_code 99 = .ok (.bipush 7, 2) := by decide +kernel
theorem d3_101 : decode prog_7_method_6_code 101 = .ok (.iand, 1) := by decide +kernel
theorem d3_102 : decode prog_7_method_6_code 102 = .ok (.bipush 18, 2) := by decide +kernel
theorem d3_104 : decode prog_7_method_6_code 104 = .ok (.ishl, 1) := by decide +kernel
theorem d3_105 : decode prog_7_method_6_code 105 = .ok (.aload_n 0, 1) := by decide +kernel
theorem d3_106 : decode prog_7_method_6_code 106 = .ok (.iload_n 1, 1) := by decide +kernel
theorem d3_107 : decode prog_7_method_6_code 107 = .ok (.iconst 1, 1) := by decide +kernel
theorem d3_108 : decode prog_7_method_6_code 108 = .ok (.iadd, 1) := by decide +kernel
theorem d3_109 : decode prog_7_method_6_code 109 = .ok (.baload, 1) := by decide +kernel
theorem d3_110 : decode prog_7_method_6_code 110 = .ok (.invokestatic 80, 3) := by decide +kernel
theorem d3_113 : decode prog_7_method_6_code 113 = .ok (.bipush 12, 2) := by decide +kernel
theorem d3_115 : decode prog_7_method_6_code 115 = .ok (.ishl, 1) := by decide +kernel
theorem d3_116 : decode prog_7_method_6_code 116 = .ok (.ior, 1) := by decide +kernel
theorem d3_117 : decode prog_7_method_6_code 117 = .ok (.aload_n 0, 1) := by decide +kernel
theorem d3_118 : decode prog_7_method_6_code 118 = .ok (.iload_n 1, 1) := by decide +kernel
theorem d3_119 : decode prog_7_method_6_code 119 = .ok (.iconst 2, 1) := by decide +kernel
theorem d3_120 : decode prog_7_method_6_code 120 = .ok (.iadd, 1) := by decide +kernel
theorem d3_121 : decode prog_7_method_6_code 121 = .ok (.baload, 1) := by decide +kernel
theorem d3_122 : decode prog_7_method_6_code 122 = .ok (.invokestatic 80, 3) := by decide +kernel
theorem d3_125 : decode prog_7_method_6_code 125 = .ok (.bipush 6, 2) := by decide +kernel
theorem d3_127 : decode prog_7_method_6_code 127 = .ok (.ishl, 1) := by decide +kernel
theorem d3_128 : decode prog_7_method_6_code 128 = .ok (.ior, 1) := by decide +kernel
theorem d3_129 : decode prog_7_method_6_code 129 = .ok (.aload_n 0, 1) := by decide +kernel
theorem d3_130 : decode prog_7_method_6_code 130 = .ok (.iload_n 1, 1) := by decide +kernel
theorem d3_131 : decode prog_7_method_6_code 131 = .ok (.iconst 3, 1) := by decide +kernel
theorem d3_132 : decode prog_7_method_6_code 132 = .ok (.iadd, 1) := by decide +kernel
theorem d3_133 : decode prog_7_method_6_code 133 = .ok (.baload, 1) := by decide +kernel
theorem d3_134 : decode prog_7_method_6_code 134 = .ok (.invokestatic 80, 3) := by decide +kernel
theorem d3_137 : decode prog_7_method_6_code 137 = .ok (.ior, 1) := by decide +kernel
theorem d3_138 : decode prog_7_method_6_code 138 = .ok (.istore 5, 2) := by decide +kernel
theorem d3_140 : decode prog_7_method_6_code 140 = .ok (.iload 5, 2) := by decide +kernel
theorem d3_142 : decode prog_7_method_6_code 142 = .ok (.ldc 72, 2) := by decide +kernel
theorem d3_144 : decode prog_7_method_6_code 144 = .ok (.if_icmp .lt 10, 3) := by decide +kernel
theorem d3_147 : decode prog_7_method_6_code 147 = .ok (.iload 5, 2) := by decide +kernel
theorem d3_149 : decode prog_7_method_6_code 149 = .ok (.ldc 88, 2) := by decide +kernel
theorem d3_151 : decode prog_7_method_6_code 151 = .ok (.if_icmp .le 12, 3) := by decide +kernel
theorem d3_154 : decode prog_7_method_6_code 154 = .ok (.new 48, 3) := by decide +kernel
theorem d3_157 : decode prog_7_method_6_code 157 = .ok (.dup, 1) := by decide +kernel
theorem d3_158 : decode prog_7_method_6_code 158 = .ok (.iload_n 2, 1) := by decide +kernel
theorem d3_159 : decode prog_7_method_6_code 159 = .ok (.invokespecial 50, 3) := by decide +kernel
theorem d3_162 : decode prog_7_method_6_code 162 = .ok (.athrow, 1) := by decide +kernel
theorem d3_163 : decode prog_7_method_6_code 163 = .ok (.iload 5, 2) := by decide +kernel
theorem d3_165 : decode prog_7_method_6_code 165 = .ok (.ireturn, 1) := by decide +kernel
theorem pn_3 : plainFor (⟨"com/example/amphion/amphion/Utf8Reader", "codePoint", "([BIIZ)I"⟩ : MethodName) = true := plainFor_of_name (by first | (simp [plainName, overriddenIn]; done) | decide +kernel)
theorem ef_3 (m : MethodId) (x0 : Addr) (x1 : Int32) (x2 : Int32) (x3 : Int32) : entryFrame m #[(.ref x0), (.int x1), (.int x2), (.int x3)] 6 = mkF m 0 #[.val (.ref x0), .val (.int x1), .val (.int x2), .val (.int x3), .unset, .unset] [] := by first | (simp [entryFrame, mkF, argsToLocals, Value.category]; done) | rfl
theorem pd_0 : parseMethodDescriptor "(B)I" = some ⟨[.byte], some .int⟩ := by decide +kernel
set_option maxRecDepth 65536 in
set_option maxHeartbeats 40000000 in
theorem rm3a (l : Launch) (Z : State) (a0 : Array Value) (hw : ∀ d ∈ tables_1, d.before a0 Z = true) (a1 : Addr) (p2 : Int32) (p4 : Int32) (k : ClassId) (f : Nat → Int32) (x0 x1 : Int32) (h0 : Heap) (n0 : Nat) (Z0 : n0 ≤ h0.size) (F : own_Arf Z h0 a1 k .byte (6 : Int32) f) (j0 : ¬ p2 < 0 ∧ p2 < 6) (j1 : ¬ (p2 + (1 : Int32)) < 0 ∧ (p2 + (1 : Int32)) < 6) (hx0 : f (p2).toNatClampNeg = x0) (hx1 : f ((p2 + (1 : Int32))).toNatClampNeg = x1) (Hx1 : x1 &&& (192 : Int32) = 128) :
    own_Met l Z [] (⟨"com/example/amphion/amphion/Utf8Reader", "codePoint", "([BIIZ)I"⟩ : MethodName) prog_7_method_6_code 6 (some .int) ({ frames := 1, cells := 0, slots := 0, locals := 13 } : Room) #[(.ref a1), (.int p2), (.int (2 : Int32)), (.int p4)] h0 (own_QP (some (.int (((x0 &&& (31 : Int32)) <<< ((6 : Int32) &&& 31)) ||| (x1 &&& (63 : Int32))))) h0 n0) := by
  refine own_enter pn_3 ?_
  intro p e s m below meth c s₁ X0 hx hby hml hown hret hlk hnm hZ e0
  have hml : c.maxLocals = 6 := hml
  have N0 := Fr.nil n0
  rw [ef_3 m a1 p2 (2 : Int32) p4]
  show own_Fin p e below s _ _ _ (s₁.setTop (mkF m 0 #[.val (.ref a1), .val (.int p2), .val (.int (2 : Int32)), .val (.int p4), .unset, .unset] []))
  refine own_Fin.step (fun _ => XS.aloadN X0.here hx rfl (hb hby d3_0) rfl rfl) ?_
  show own_Fin p e below s _ _ _ (s₁.setTop (mkF m 1 #[.val (.ref a1), .val (.int p2), .val (.int (2 : Int32)), .val (.int p4), .unset, .unset] [(.ref a1)]))
  refine own_Fin.step (fun _ => XS.iloadN X0.here hx rfl (hb hby d3_1) rfl) ?_
  show own_Fin p e below s _ _ _ (s₁.setTop (mkF m 2 #[.val (.ref a1), .val (.int p2), .val (.int (2 : Int32)), .val (.int p4), .unset, .unset] [(.int p2), (.ref a1)]))
  refine own_Fin.step (own_ldFB X0 hx hZ e0 F (j := p2) j0 (g := (mkF m 2 #[.val (.ref a1), .val (.int p2), .val (.int (2 : Int32)), .val (.int p4), .unset, .unset] [(.int p2), (.ref a1)])) rfl rfl (hb hby d3_2)) ?_
  show own_Fin p e below s _ _ _ (s₁.setTop (mkF m 3 #[.val (.ref a1), .val (.int p2), .val (.int (2 : Int32)), .val (.int p4), .unset, .unset] [(.int (f (p2).toNatClampNeg))]))
  rw [hx0]
  refine own_Fin.step (fun _ => XS.istore X0.here hx rfl (hb hby d3_3) rfl (l' := #[.val (.ref a1), .val (.int p2), .val (.int (2 : Int32)), .val (.int p4), .val (.int x0), .unset]) rfl) ?_
  show own_Fin p e below s _ _ _ (s₁.setTop (mkF m 5 #[.val (.ref a1), .val (.int p2), .val (.int (2 : Int32)), .val (.int p4), .val (.int x0), .unset] []))
  refine own_Fin.step (fun _ => XS.iloadN X0.here hx rfl (hb hby d3_5) rfl) ?_
  show own_Fin p e below s _ _ _ (s₁.setTop (mkF m 6 #[.val (.ref a1), .val (.int p2), .val (.int (2 : Int32)), .val (.int p4), .val (.int x0), .unset] [(.int (2 : Int32))]))
  refine own_Fin.step (fun _ => XS.iconst X0.here hx rfl (hb hby d3_6)) ?_
  show own_Fin p e below s _ _ _ (s₁.setTop (mkF m 7 #[.val (.ref a1), .val (.int p2), .val (.int (2 : Int32)), .val (.int p4), .val (.int x0), .unset] [(.int (2 : Int32)), (.int (2 : Int32))]))
  refine own_Fin.step (fun _ => XS.icmpNo X0.here hx rfl (hb hby d3_7) rfl (XT.ii_ne_f (by decide : (2 : Int32) = (2 : Int32)))) ?_
  show own_Fin p e below s _ _ _ (s₁.setTop (mkF m 10 #[.val (.ref a1), .val (.int p2), .val (.int (2 : Int32)), .val (.int p4), .val (.int x0), .unset] []))
  refine own_Fin.step (fun _ => XS.iload X0.here hx rfl (hb hby d3_10) rfl) ?_
  show own_Fin p e below s _ _ _ (s₁.setTop (mkF m 12 #[.val (.ref a1), .val (.int p2), .val (.int (2 : Int32)), .val (.int p4), .val (.int x0), .unset] [(.int x0)]))
  refine own_Fin.step (fun _ => XS.bipush X0.here hx rfl (hb hby d3_12)) ?_
  show own_Fin p e below s _ _ _ (s₁.setTop (mkF m 14 #[.val (.ref a1), .val (.int p2), .val (.int (2 : Int32)), .val (.int p4), .val (.int x0), .unset] [(.int (31 : Int32)), (.int x0)]))
  refine own_Fin.step (fun _ => XS.iand X0.here hx rfl (hb hby d3_14) rfl) ?_
  show own_Fin p e below s _ _ _ (s₁.setTop (mkF m 15 #[.val (.ref a1), .val (.int p2), .val (.int (2 : Int32)), .val (.int p4), .val (.int x0), .unset] [(.int (x0 &&& (31 : Int32)))]))
  refine own_Fin.step (fun _ => XS.bipush X0.here hx rfl (hb hby d3_15)) ?_
  show own_Fin p e below s _ _ _ (s₁.setTop (mkF m 17 #[.val (.ref a1), .val (.int p2), .val (.int (2 : Int32)), .val (.int p4), .val (.int x0), .unset] [(.int (6 : Int32)), (.int (x0 &&& (31 : Int32)))]))
  refine own_Fin.step (fun _ => XS.ishl X0.here hx rfl (hb hby d3_17) rfl) ?_
  show own_Fin p e below s _ _ _ (s₁.setTop (mkF m 18 #[.val (.ref a1), .val (.int p2), .val (.int (2 : Int32)), .val (.int p4), .val (.int x0), .unset] [(.int ((x0 &&& (31 : Int32)) <<< ((6 : Int32) &&& 31)))]))
  refine own_Fin.step (fun _ => XS.aloadN X0.here hx rfl (hb hby d3_18) rfl rfl) ?_
  show own_Fin p e below s _ _ _ (s₁.setTop (mkF m 19 #[.val (.ref a1), .val (.int p2), .val (.int (2 : Int32)), .val (.int p4), .val (.int x0), .unset] [(.ref a1), (.int ((x0 &&& (31 : Int32)) <<< ((6 : Int32) &&& 31)))]))
  refine own_Fin.step (fun _ => XS.iloadN X0.here hx rfl (hb hby d3_19) rfl) ?_
  show own_Fin p e below s _ _ _ (s₁.setTop (mkF m 20 #[.val (.ref a1), .val (.int p2), .val (.int (2 : Int32)), .val (.int p4), .val (.int x0), .unset] [(.int p2), (.ref a1), (.int ((x0 &&& (31 : Int32)) <<< ((6 : Int32) &&& 31)))]))
  refine own_Fin.step (fun _ => XS.iconst X0.here hx rfl (hb hby d3_20)) ?_
  show own_Fin p e below s _ _ _ (s₁.setTop (mkF m 21 #[.val (.ref a1), .val (.int p2), .val (.int (2 : Int32)), .val (.int p4), .val (.int x0), .unset] [(.int (1 : Int32)), (.int p2), (.ref a1), (.int ((x0 &&& (31 : Int32)) <<< ((6 : Int32) &&& 31)))]))
  refine own_Fin.step (fun _ => XS.iadd X0.here hx rfl (hb hby d3_21) rfl) ?_
  show own_Fin p e below s _ _ _ (s₁.setTop (mkF m 22 #[.val (.ref a1), .val (.int p2), .val (.int (2 : Int32)), .val (.int p4), .val (.int x0), .unset] [(.int (p2 + (1 : Int32))), (.ref a1), (.int ((x0 &&& (31 : Int32)) <<< ((6 : Int32) &&& 31)))]))
  refine own_Fin.step (own_ldFB X0 hx hZ e0 F (j := (p2 + (1 : Int32))) j1 (g := (mkF m 22 #[.val (.ref a1), .val (.int p2), .val (.int (2 : Int32)), .val (.int p4), .val (.int x0), .unset] [(.int (p2 + (1 : Int32))), (.ref a1), (.int ((x0 &&& (31 : Int32)) <<< ((6 : Int32) &&& 31)))])) rfl rfl (hb hby d3_22)) ?_
  show own_Fin p e below s _ _ _ (s₁.setTop (mkF m 23 #[.val (.ref a1), .val (.int p2), .val (.int (2 : Int32)), .val (.int p4), .val (.int x0), .unset] [(.int (f ((p2 + (1 : Int32))).toNatClampNeg)), (.int ((x0 &&& (31 : Int32)) <<< ((6 : Int32) &&& 31)))]))
  rw [hx1]
  obtain ⟨_, T1, L1, X1, ⟨rfl, N1q, e1⟩, st1⟩ := own_callS X0 hx hZ hown (own_w hw 6 rfl) (own_w hw 7 rfl) (own_w hw 4 rfl) (own_w hw 8 rfl) (by decide) (rm1 l Z a0 hw x1 h0 n0 Z0 Hx1) (by decide) (by decide) e0 (W := 1) (g := (mkF m 23 #[.val (.ref a1), .val (.int p2), .val (.int (2 : Int32)), .val (.int p4), .val (.int x0), .unset] [(.int x1), (.int ((x0 &&& (31 : Int32)) <<< ((6 : Int32) &&& 31)))])) rfl (by rw [hml]; rfl) (argsL := [(.int x1)]) (rest := [(.int ((x0 &&& (31 : Int32)) <<< ((6 : Int32) &&& 31)))]) (lenOf pd_0 rfl) rfl rfl (by show 2 * 0 + _ ≤ _; exact Nat.le_of_eq rfl) (hb hby d3_23) (by decide) (by decide)
  have N1 := Fr.app N0 N1q
  refine own_Fin.step st1 ?_
  show own_Fin p e below s _ _ _ (T1.setTop (mkF m 26 #[.val (.ref a1), .val (.int p2), .val (.int (2 : Int32)), .val (.int p4), .val (.int x0), .unset] [(.int (x1 &&& (63 : Int32))), (.int ((x0 &&& (31 : Int32)) <<< ((6 : Int32) &&& 31)))]))
  refine own_Fin.step (fun _ => XS.ior X1.here hx rfl (hb hby d3_26) rfl) ?_
  show own_Fin p e below s _ _ _ (T1.setTop (mkF m 27 #[.val (.ref a1), .val (.int p2), .val (.int (2 : Int32)), .val (.int p4), .val (.int x0), .unset] [(.int (((x0 &&& (31 : Int32)) <<< ((6 : Int32) &&& 31)) ||| (x1 &&& (63 : Int32))))]))
  exact own_retI X1 hx hlk hret (hb hby d3_27) ⟨rfl, N1, e1⟩ (by decide) (by decide)
theorem pd_1 : parseMethodDescriptor "(C)Z" = some ⟨[.char], some .boolean⟩ := by decide +kernel
set_option maxRecDepth 65536 in
set_option maxHeartbeats 40000000 in
theorem rm3b (l : Launch) (Z : State) (a0 : Array Value) (hw : ∀ d ∈ tables_1, d.before a0 Z = true) (a1 : Addr) (p2 : Int32) (p4 : Int32) (k : ClassId) (f : Nat → Int32) (x0 x1 x2 cp : Int32) (h0 : Heap) (n0 : Nat) (Z0 : n0 ≤ h0.size) (F : own_Arf Z h0 a1 k .byte (6 : Int32) f) (j0 : ¬ p2 < 0 ∧ p2 < 6) (j1 : ¬ (p2 + (1 : Int32)) < 0 ∧ (p2 + (1 : Int32)) < 6) (j2 : ¬ (p2 + (2 : Int32)) < 0 ∧ (p2 + (2 : Int32)) < 6) (hx0 : f (p2).toNatClampNeg = x0) (hx1 : f ((p2 + (1 : Int32))).toNatClampNeg = x1) (hx2 : f ((p2 + (2 : Int32))).toNatClampNeg = x2) (Hx1 : x1 &&& (192 : Int32) = 128) (Hx2 : x2 &&& (192 : Int32) = 128) (hcp : ((((x0 &&& (15 : Int32)) <<< ((12 : Int32) &&& 31)) ||| ((x1 &&& (63 : Int32)) <<< ((6 : Int32) &&& 31))) ||| (x2 &&& (63 : Int32))) = cp) (Hlo : ¬ cp < 2048) (Hs : p4 = 0 → own_sur (cp.toUInt32.toUInt16.toUInt32.toInt32) = 0) :
    own_Met l Z [] (⟨"com/example/amphion/amphion/Utf8Reader", "codePoint", "([BIIZ)I"⟩ : MethodName) prog_7_method_6_code 6 (some .int) ({ frames := 1, cells := 0, slots := 0, locals := 13 } : Room) #[(.ref a1), (.int p2), (.int (3 : Int32)), (.int p4)] h0 (own_QP (some (.int cp)) h0 n0) := by
  refine own_enter pn_3 ?_
  intro p e s m below meth c s₁ X0 hx hby hml hown hret hlk hnm hZ e0
  have hml : c.maxLocals = 6 := hml
  have N0 := Fr.nil n0
  rw [ef_3 m a1 p2 (3 : Int32) p4]
  show own_Fin p e below s _ _ _ (s₁.setTop (mkF m 0 #[.val (.ref a1), .val (.int p2), .val (.int (3 : Int32)), .val (.int p4), .unset, .unset] []))
  refine own_Fin.step (fun _ => XS.aloadN X0.here hx rfl (hb hby d3_0) rfl rfl) ?_
  show own_Fin p e below s _ _ _ (s₁.setTop (mkF m 1 #[.val (.ref a1), .val (.int p2), .val (.int (3 : Int32)), .val (.int p4), .unset, .unset] [(.ref a1)]))
  refine own_Fin.step (fun _ => XS.iloadN X0.here hx rfl (hb hby d3_1) rfl) ?_
  show own_Fin p e below s _ _ _ (s₁.setTop (mkF m 2 #[.val (.ref a1), .val (.int p2), .val (.int (3 : Int32)), .val (.int p4), .unset, .unset] [(.int p2), (.ref a1)]))
  refine own_Fin.step (own_ldFB X0 hx hZ e0 F (j := p2) j0 (g := (mkF m 2 #[.val (.ref a1), .val (.int p2), .val (.int (3 : Int32)), .val (.int p4), .unset, .unset] [(.int p2), (.ref a1)])) rfl rfl (hb hby d3_2)) ?_
  show own_Fin p e below s _ _ _ (s₁.setTop (mkF m 3 #[.val (.ref a1), .val (.int p2), .val (.int (3 : Int32)), .val (.int p4), .unset, .unset] [(.int (f (p2).toNatClampNeg))]))
  rw [hx0]
  refine own_Fin.step (fun _ => XS.istore X0.here hx rfl (hb hby d3_3) rfl (l' := #[.val (.ref a1), .val (.int p2), .val (.int (3 : Int32)), .val (.int p4), .val (.int x0), .unset]) rfl) ?_
  show own_Fin p e below s _ _ _ (s₁.setTop (mkF m 5 #[.val (.ref a1), .val (.int p2), .val (.int (3 : Int32)), .val (.int p4), .val (.int x0), .unset] []))
  refine own_Fin.step (fun _ => XS.iloadN X0.here hx rfl (hb hby d3_5) rfl) ?_
  show own_Fin p e below s _ _ _ (s₁.setTop (mkF m 6 #[.val (.ref a1), .val (.int p2), .val (.int (3 : Int32)), .val (.int p4), .val (.int x0), .unset] [(.int (3 : Int32))]))
  refine own_Fin.step (fun _ => XS.iconst X0.here hx rfl (hb hby d3_6)) ?_
  show own_Fin p e below s _ _ _ (s₁.setTop (mkF m 7 #[.val (.ref a1), .val (.int p2), .val (.int (3 : Int32)), .val (.int p4), .val (.int x0), .unset] [(.int (2 : Int32)), (.int (3 : Int32))]))
  refine own_Fin.step (fun _ => XS.icmpYes X0.here hx rfl (pc0 := 7) (pc' := 28) rfl (hb hby d3_7) rfl (XT.ii_ne_t (by decide : ¬ ((3 : Int32) = (2 : Int32)))) (by decide) (by decide)) ?_
  show own_Fin p e below s _ _ _ (s₁.setTop (mkF m 28 #[.val (.ref a1), .val (.int p2), .val (.int (3 : Int32)), .val (.int p4), .val (.int x0), .unset] []))
  refine own_Fin.step (fun _ => XS.iloadN X0.here hx rfl (hb hby d3_28) rfl) ?_
  show own_Fin p e below s _ _ _ (s₁.setTop (mkF m 29 #[.val (.ref a1), .val (.int p2), .val (.int (3 : Int32)), .val (.int p4), .val (.int x0), .unset] [(.int (3 : Int32))]))
  refine own_Fin.step (fun _ => XS.iconst X0.here hx rfl (hb hby d3_29)) ?_
  show own_Fin p e below s _ _ _ (s₁.setTop (mkF m 30 #[.val (.ref a1), .val (.int p2), .val (.int (3 : Int32)), .val (.int p4), .val (.int x0), .unset] [(.int (3 : Int32)), (.int (3 : Int32))]))
  refine own_Fin.step (fun _ => XS.icmpNo X0.here hx rfl (hb hby d3_30) rfl (XT.ii_ne_f (by decide : (3 : Int32) = (3 : Int32)))) ?_
  show own_Fin p e below s _ _ _ (s₁.setTop (mkF m 33 #[.val (.ref a1), .val (.int p2), .val (.int (3 : Int32)), .val (.int p4), .val (.int x0), .unset] []))
  refine own_Fin.step (fun _ => XS.iload X0.here hx rfl (hb hby d3_33) rfl) ?_
  show own_Fin p e below s _ _ _ (s₁.setTop (mkF m 35 #[.val (.ref a1), .val (.int p2), .val (.int (3 : Int32)), .val (.int p4), .val (.int x0), .unset] [(.int x0)]))
  refine own_Fin.step (fun _ => XS.bipush X0.here hx rfl (hb hby d3_35)) ?_
  show own_Fin p e below s _ _ _ (s₁.setTop (mkF m 37 #[.val (.ref a1), .val (.int p2), .val (.int (3 : Int32)), .val (.int p4), .val (.int x0), .unset] [(.int (15 : Int32)), (.int x0)]))
  refine own_Fin.step (fun _ => XS.iand X0.here hx rfl (hb hby d3_37) rfl) ?_
  show own_Fin p e below s _ _ _ (s₁.setTop (mkF m 38 #[.val (.ref a1), .val (.int p2), .val (.int (3 : Int32)), .val (.int p4), .val (.int x0), .unset] [(.int (x0 &&& (15 : Int32)))]))
  refine own_Fin.step (fun _ => XS.bipush X0.here hx rfl (hb hby d3_38)) ?_
  show own_Fin p e below s _ _ _ (s₁.setTop (mkF m 40 #[.val (.ref a1), .val (.int p2), .val (.int (3 : Int32)), .val (.int p4), .val (.int x0), .unset] [(.int (12 : Int32)), (.int (x0 &&& (15 : Int32)))]))
  refine own_Fin.step (fun _ => XS.ishl X0.here hx rfl (hb hby d3_40) rfl) ?_
  show own_Fin p e below s _ _ _ (s₁.setTop (mkF m 41 #[.val (.ref a1), .val (.int p2), .val (.int (3 : Int32)), .val (.int p4), .val (.int x0), .unset] [(.int ((x0 &&& (15 : Int32)) <<< ((12 : Int32) &&& 31)))]))
  refine own_Fin.step (fun _ => XS.aloadN X0.here hx rfl (hb hby d3_41) rfl rfl) ?_
  show own_Fin p e below s _ _ _ (s₁.setTop (mkF m 42 #[.val (.ref a1), .val (.int p2), .val (.int (3 : Int32)), .val (.int p4), .val (.int x0), .unset] [(.ref a1), (.int ((x0 &&& (15 : Int32)) <<< ((12 : Int32) &&& 31)))]))
  refine own_Fin.step (fun _ => XS.iloadN X0.here hx rfl (hb hby d3_42) rfl) ?_
  show own_Fin p e below s _ _ _ (s₁.setTop (mkF m 43 #[.val (.ref a1), .val (.int p2), .val (.int (3 : Int32)), .val (.int p4), .val (.int x0), .unset] [(.int p2), (.ref a1), (.int ((x0 &&& (15 : Int32)) <<< ((12 : Int32) &&& 31)))]))
  refine own_Fin.step (fun _ => XS.iconst X0.here hx rfl (hb hby d3_43)) ?_
  show own_Fin p e below s _ _ _ (s₁.setTop (mkF m 44 #[.val (.ref a1), .val (.int p2), .val (.int (3 : Int32)), .val (.int p4), .val (.int x0), .unset] [(.int (1 : Int32)), (.int p2), (.ref a1), (.int ((x0 &&& (15 : Int32)) <<< ((12 : Int32) &&& 31)))]))
  refine own_Fin.step (fun _ => XS.iadd X0.here hx rfl (hb hby d3_44) rfl) ?_
  show own_Fin p e below s _ _ _ (s₁.setTop (mkF m 45 #[.val (.ref a1), .val (.int p2), .val (.int (3 : Int32)), .val (.int p4), .val (.int x0), .unset] [(.int (p2 + (1 : Int32))), (.ref a1), (.int ((x0 &&& (15 : Int32)) <<< ((12 : Int32) &&& 31)))]))
  refine own_Fin.step (own_ldFB X0 hx hZ e0 F (j := (p2 + (1 : Int32))) j1 (g := (mkF m 45 #[.val (.ref a1), .val (.int p2), .val (.int (3 : Int32)), .val (.int p4), .val (.int x0), .unset] [(.int (p2 + (1 : Int32))), (.ref a1), (.int ((x0 &&& (15 : Int32)) <<< ((12 : Int32) &&& 31)))])) rfl rfl (hb hby d3_45)) ?_
  show own_Fin p e below s _ _ _ (s₁.setTop (mkF m 46 #[.val (.ref a1), .val (.int p2), .val (.int (3 : Int32)), .val (.int p4), .val (.int x0), .unset] [(.int (f ((p2 + (1 : Int32))).toNatClampNeg)), (.int ((x0 &&& (15 : Int32)) <<< ((12 : Int32) &&& 31)))]))
  rw [hx1]
  obtain ⟨_, T1, L1, X1, ⟨rfl, N1q, e1⟩, st1⟩ := own_callS X0 hx hZ hown (own_w hw 6 rfl) (own_w hw 7 rfl) (own_w hw 4 rfl) (own_w hw 8 rfl) (by decide) (rm1 l Z a0 hw x1 h0 n0 Z0 Hx1) (by decide) (by decide) e0 (W := 1) (g := (mkF m 46 #[.val (.ref a1), .val (.int p2), .val (.int (3 : Int32)), .val (.int p4), .val (.int x0), .unset] [(.int x1), (.int ((x0 &&& (15 : Int32)) <<< ((12 : Int32) &&& 31)))])) rfl (by rw [hml]; rfl) (argsL := [(.int x1)]) (rest := [(.int ((x0 &&& (15 : Int32)) <<< ((12 : Int32) &&& 31)))]) (lenOf pd_0 rfl) rfl rfl (by show 2 * 0 + _ ≤ _; exact Nat.le_of_eq rfl) (hb hby d3_46) (by decide) (by decide)
  have N1 := Fr.app N0 N1q
  refine own_Fin.step st1 ?_
  show own_Fin p e below s _ _ _ (T1.setTop (mkF m 49 #[.val (.ref a1), .val (.int p2), .val (.int (3 : Int32)), .val (.int p4), .val (.int x0), .unset] [(.int (x1 &&& (63 : Int32))), (.int ((x0 &&& (15 : Int32)) <<< ((12 : Int32) &&& 31)))]))
  refine own_Fin.step (fun _ => XS.bipush X1.here hx rfl (hb hby d3_49)) ?_
  show own_Fin p e below s _ _ _ (T1.setTop (mkF m 51 #[.val (.ref a1), .val (.int p2), .val (.int (3 : Int32)), .val (.int p4), .val (.int x0), .unset] [(.int (6 : Int32)), (.int (x1 &&& (63 : Int32))), (.int ((x0 &&& (15 : Int32)) <<< ((12 : Int32) &&& 31)))]))
  refine own_Fin.step (fun _ => XS.ishl X1.here hx rfl (hb hby d3_51) rfl) ?_
  show own_Fin p e below s _ _ _ (T1.setTop (mkF m 52 #[.val (.ref a1), .val (.int p2), .val (.int (3 : Int32)), .val (.int p4), .val (.int x0), .unset] [(.int ((x1 &&& (63 : Int32)) <<< ((6 : Int32) &&& 31))), (.int ((x0 &&& (15 : Int32)) <<< ((12 : Int32) &&& 31)))]))
  refine own_Fin.step (fun _ => XS.ior X1.here hx rfl (hb hby d3_52) rfl) ?_
  show own_Fin p e below s _ _ _ (T1.setTop (mkF m 53 #[.val (.ref a1), .val (.int p2), .val (.int (3 : Int32)), .val (.int p4), .val (.int x0), .unset] [(.int (((x0 &&& (15 : Int32)) <<< ((12 : Int32) &&& 31)) ||| ((x1 &&& (63 : Int32)) <<< ((6 : Int32) &&& 31))))]))
  refine own_Fin.step (fun _ => XS.aloadN X1.here hx rfl (hb hby d3_53) rfl rfl) ?_
  show own_Fin p e below s _ _ _ (T1.setTop (mkF m 54 #[.val (.ref a1), .val (.int p2), .val (.int (3 : Int32)), .val (.int p4), .val (.int x0), .unset] [(.ref a1), (.int (((x0 &&& (15 : Int32)) <<< ((12 : Int32) &&& 31)) ||| ((x1 &&& (63 : Int32)) <<< ((6 : Int32) &&& 31))))]))
  refine own_Fin.step (fun _ => XS.iloadN X1.here hx rfl (hb hby d3_54) rfl) ?_
  show own_Fin p e below s _ _ _ (T1.setTop (mkF m 55 #[.val (.ref a1), .val (.int p2), .val (.int (3 : Int32)), .val (.int p4), .val (.int x0), .unset] [(.int p2), (.ref a1), (.int (((x0 &&& (15 : Int32)) <<< ((12 : Int32) &&& 31)) ||| ((x1 &&& (63 : Int32)) <<< ((6 : Int32) &&& 31))))]))
  refine own_Fin.step (fun _ => XS.iconst X1.here hx rfl (hb hby d3_55)) ?_
  show own_Fin p e below s _ _ _ (T1.setTop (mkF m 56 #[.val (.ref a1), .val (.int p2), .val (.int (3 : Int32)), .val (.int p4), .val (.int x0), .unset] [(.int (2 : Int32)), (.int p2), (.ref a1), (.int (((x0 &&& (15 : Int32)) <<< ((12 : Int32) &&& 31)) ||| ((x1 &&& (63 : Int32)) <<< ((6 : Int32) &&& 31))))]))
  refine own_Fin.step (fun _ => XS.iadd X1.here hx rfl (hb hby d3_56) rfl) ?_
  show own_Fin p e below s _ _ _ (T1.setTop (mkF m 57 #[.val (.ref a1), .val (.int p2), .val (.int (3 : Int32)), .val (.int p4), .val (.int x0), .unset] [(.int (p2 + (2 : Int32))), (.ref a1), (.int (((x0 &&& (15 : Int32)) <<< ((12 : Int32) &&& 31)) ||| ((x1 &&& (63 : Int32)) <<< ((6 : Int32) &&& 31))))]))
  refine own_Fin.step (own_ldFB X1 hx hZ e1 F (j := (p2 + (2 : Int32))) j2 (g := (mkF m 57 #[.val (.ref a1), .val (.int p2), .val (.int (3 : Int32)), .val (.int p4), .val (.int x0), .unset] [(.int (p2 + (2 : Int32))), (.ref a1), (.int (((x0 &&& (15 : Int32)) <<< ((12 : Int32) &&& 31)) ||| ((x1 &&& (63 : Int32)) <<< ((6 : Int32) &&& 31))))])) rfl rfl (hb hby d3_57)) ?_
  show own_Fin p e below s _ _ _ (T1.setTop (mkF m 58 #[.val (.ref a1), .val (.int p2), .val (.int (3 : Int32)), .val (.int p4), .val (.int x0), .unset] [(.int (f ((p2 + (2 : Int32))).toNatClampNeg)), (.int (((x0 &&& (15 : Int32)) <<< ((12 : Int32) &&& 31)) ||| ((x1 &&& (63 : Int32)) <<< ((6 : Int32) &&& 31))))]))
  rw [hx2]
  obtain ⟨_, T2, L2, X2, ⟨rfl, N2q, e2⟩, st2⟩ := own_callS X1 hx hZ hown (own_w hw 6 rfl) (own_w hw 7 rfl) (own_w hw 4 rfl) (own_w hw 8 rfl) (by decide) (rm1 l Z a0 hw x2 h0 n0 Z0 Hx2) (by decide) (by decide) e1 (W := 1) (g := (mkF m 58 #[.val (.ref a1), .val (.int p2), .val (.int (3 : Int32)), .val (.int p4), .val (.int x0), .unset] [(.int x2), (.int (((x0 &&& (15 : Int32)) <<< ((12 : Int32) &&& 31)) ||| ((x1 &&& (63 : Int32)) <<< ((6 : Int32) &&& 31))))])) rfl (by rw [hml]; rfl) (argsL := [(.int x2)]) (rest := [(.int (((x0 &&& (15 : Int32)) <<< ((12 : Int32) &&& 31)) ||| ((x1 &&& (63 : Int32)) <<< ((6 : Int32) &&& 31))))]) (lenOf pd_0 rfl) rfl rfl (by show 2 * 0 + _ ≤ _; exact Nat.le_of_eq rfl) (hb hby d3_58) (by decide) (by decide)
  have N2 := Fr.app N1 N2q
  refine own_Fin.step st2 ?_
  show own_Fin p e below s _ _ _ (T2.setTop (mkF m 61 #[.val (.ref a1), .val (.int p2), .val (.int (3 : Int32)), .val (.int p4), .val (.int x0), .unset] [(.int (x2 &&& (63 : Int32))), (.int (((x0 &&& (15 : Int32)) <<< ((12 : Int32) &&& 31)) ||| ((x1 &&& (63 : Int32)) <<< ((6 : Int32) &&& 31))))]))
  refine own_Fin.step (fun _ => XS.ior X2.here hx rfl (hb hby d3_61) rfl) ?_
  show own_Fin p e below s _ _ _ (T2.setTop (mkF m 62 #[.val (.ref a1), .val (.int p2), .val (.int (3 : Int32)), .val (.int p4), .val (.int x0), .unset] [(.int ((((x0 &&& (15 : Int32)) <<< ((12 : Int32) &&& 31)) ||| ((x1 &&& (63 : Int32)) <<< ((6 : Int32) &&& 31))) ||| (x2 &&& (63 : Int32))))]))
  rw [hcp]
  refine own_Fin.step (fun _ => XS.istore X2.here hx rfl (hb hby d3_62) rfl (l' := #[.val (.ref a1), .val (.int p2), .val (.int (3 : Int32)), .val (.int p4), .val (.int x0), .val (.int cp)]) rfl) ?_
  show own_Fin p e below s _ _ _ (T2.setTop (mkF m 64 #[.val (.ref a1), .val (.int p2), .val (.int (3 : Int32)), .val (.int p4), .val (.int x0), .val (.int cp)] []))
  refine own_Fin.step (fun _ => XS.iload X2.here hx rfl (hb hby d3_64) rfl) ?_
  show own_Fin p e below s _ _ _ (T2.setTop (mkF m 66 #[.val (.ref a1), .val (.int p2), .val (.int (3 : Int32)), .val (.int p4), .val (.int x0), .val (.int cp)] [(.int cp)]))
  refine own_Fin.step (fun _ => XS.sipush X2.here hx rfl (hb hby d3_66)) ?_
  show own_Fin p e below s _ _ _ (T2.setTop (mkF m 69 #[.val (.ref a1), .val (.int p2), .val (.int (3 : Int32)), .val (.int p4), .val (.int x0), .val (.int cp)] [(.int (2048 : Int32)), (.int cp)]))
  refine own_Fin.step (fun _ => XS.icmpNo X2.here hx rfl (hb hby d3_69) rfl (XT.ii_lt_f Hlo)) ?_
  show own_Fin p e below s _ _ _ (T2.setTop (mkF m 72 #[.val (.ref a1), .val (.int p2), .val (.int (3 : Int32)), .val (.int p4), .val (.int x0), .val (.int cp)] []))
  refine own_Fin.step (fun _ => XS.iloadN X2.here hx rfl (hb hby d3_72) rfl) ?_
  show own_Fin p e below s _ _ _ (T2.setTop (mkF m 73 #[.val (.ref a1), .val (.int p2), .val (.int (3 : Int32)), .val (.int p4), .val (.int x0), .val (.int cp)] [(.int p4)]))
  by_cases hc73_3 : p4 = (0 : Int32)
  ·
    refine own_Fin.step (fun _ => XS.ifNo X2.here hx rfl (hb hby d3_73) rfl (XT.i0_ne_f hc73_3)) ?_
    show own_Fin p e below s _ _ _ (T2.setTop (mkF m 76 #[.val (.ref a1), .val (.int p2), .val (.int (3 : Int32)), .val (.int p4), .val (.int x0), .val (.int cp)] []))
    refine own_Fin.step (fun _ => XS.iload X2.here hx rfl (hb hby d3_76) rfl) ?_
    show own_Fin p e below s _ _ _ (T2.setTop (mkF m 78 #[.val (.ref a1), .val (.int p2), .val (.int (3 : Int32)), .val (.int p4), .val (.int x0), .val (.int cp)] [(.int cp)]))
    refine own_Fin.step (fun _ => XS.i2c X2.here hx rfl (hb hby d3_78) rfl) ?_
    show own_Fin p e below s _ _ _ (T2.setTop (mkF m 79 #[.val (.ref a1), .val (.int p2), .val (.int (3 : Int32)), .val (.int p4), .val (.int x0), .val (.int cp)] [(.int (cp.toUInt32.toUInt16.toUInt32.toInt32))]))
    obtain ⟨_, T4, L4, X4, ⟨rfl, N4q, e4⟩, st4⟩ := own_callS X2 hx hZ hown (own_w hw 15 rfl) (own_w hw 16 rfl) (own_w hw 17 rfl) (own_w hw 18 rfl) (by decide) (rm2 l Z a0 hw (cp.toUInt32.toUInt16.toUInt32.toInt32) h0 n0 Z0) (by decide) (by decide) e2 (W := 0) (g := (mkF m 79 #[.val (.ref a1), .val (.int p2), .val (.int (3 : Int32)), .val (.int p4), .val (.int x0), .val (.int cp)] [(.int (cp.toUInt32.toUInt16.toUInt32.toInt32))])) rfl (by rw [hml]; rfl) (argsL := [(.int (cp.toUInt32.toUInt16.toUInt32.toInt32))]) (rest := []) (lenOf pd_1 rfl) rfl rfl (by show 2 * 0 + _ ≤ _; exact Nat.le_of_eq rfl) (hb hby d3_79) (by decide) (by decide)
    have N4 := Fr.app N2 N4q
    refine own_Fin.step st4 ?_
    show own_Fin p e below s _ _ _ (T4.setTop (mkF m 82 #[.val (.ref a1), .val (.int p2), .val (.int (3 : Int32)), .val (.int p4), .val (.int x0), .val (.int cp)] [(.int (own_sur (cp.toUInt32.toUInt16.toUInt32.toInt32)))]))
    refine own_Fin.step (fun _ => XS.ifYes X4.here hx rfl (pc0 := 82) (pc' := 94) rfl (hb hby d3_82) rfl (XT.i0_eq_t (Hs hc73_3)) (by decide) (by decide)) ?_
    show own_Fin p e below s _ _ _ (T4.setTop (mkF m 94 #[.val (.ref a1), .val (.int p2), .val (.int (3 : Int32)), .val (.int p4), .val (.int x0), .val (.int cp)] []))
    refine own_Fin.step (fun _ => XS.iload X4.here hx rfl (hb hby d3_94) rfl) ?_
    show own_Fin p e below s _ _ _ (T4.setTop (mkF m 96 #[.val (.ref a1), .val (.int p2), .val (.int (3 : Int32)), .val (.int p4), .val (.int x0), .val (.int cp)] [(.int cp)]))
    exact own_retI X4 hx hlk hret (hb hby d3_96) ⟨rfl, N4, e4⟩ (by decide) (by decide)
  ·
    refine own_Fin.step (fun _ => XS.ifYes X2.here hx rfl (pc0 := 73) (pc' := 94) rfl (hb hby d3_73) rfl (XT.i0_ne_t hc73_3) (by decide) (by decide)) ?_
    show own_Fin p e below s _ _ _ (T2.setTop (mkF m 94 #[.val (.ref a1), .val (.int p2), .val (.int (3 : Int32)), .val (.int p4), .val (.int x0), .val (.int cp)] []))
    refine own_Fin.step (fun _ => XS.iload X2.here hx rfl (hb hby d3_94) rfl) ?_
    show own_Fin p e below s _ _ _ (T2.setTop (mkF m 96 #[.val (.ref a1), .val (.int p2), .val (.int (3 : Int32)), .val (.int p4), .val (.int x0), .val (.int cp)] [(.int cp)]))
    exact own_retI X2 hx hlk hret (hb hby d3_96) ⟨rfl, N2, e2⟩ (by decide) (by decide)
set_option maxRecDepth 65536 in
set_option maxHeartbeats 40000000 in
theorem rm3c (l : Launch) (Z : State) (a0 : Array Value) (hw : ∀ d ∈ tables_1, d.before a0 Z = true) (a1 : Addr) (p2 : Int32) (p4 : Int32) (k : ClassId) (f : Nat → Int32) (x0 x1 x2 x3 cp : Int32) (h0 : Heap) (n0 : Nat) (Z0 : n0 ≤ h0.size) (F : own_Arf Z h0 a1 k .byte (6 : Int32) f) (j0 : ¬ p2 < 0 ∧ p2 < 6) (j1 : ¬ (p2 + (1 : Int32)) < 0 ∧ (p2 + (1 : Int32)) < 6) (j2 : ¬ (p2 + (2 : Int32)) < 0 ∧ (p2 + (2 : Int32)) < 6) (j3 : ¬ (p2 + (3 : Int32)) < 0 ∧ (p2 + (3 : Int32)) < 6) (hx0 : f (p2).toNatClampNeg = x0) (hx1 : f ((p2 + (1 : Int32))).toNatClampNeg = x1) (hx2 : f ((p2 + (2 : Int32))).toNatClampNeg = x2) (hx3 : f ((p2 + (3 : Int32))).toNatClampNeg = x3) (Hx1 : x1 &&& (192 : Int32) = 128) (Hx2 : x2 &&& (192 : Int32) = 128) (Hx3 : x3 &&& (192 : Int32) = 128) (hcp : (((((x0 &&& (7 : Int32)) <<< ((18 : Int32) &&& 31)) ||| ((x1 &&& (63 : Int32)) <<< ((12 : Int32) &&& 31))) ||| ((x2 &&& (63 : Int32)) <<< ((6 : Int32) &&& 31))) ||| (x3 &&& (63 : Int32))) = cp) (Hlo : ¬ cp < 65536) (Hhi : ¬ (1114111 : Int32) < cp) :
    own_Met l Z [] (⟨"com/example/amphion/amphion/Utf8Reader", "codePoint", "([BIIZ)I"⟩ : MethodName) prog_7_method_6_code 6 (some .int) ({ frames := 1, cells := 0, slots := 0, locals := 13 } : Room) #[(.ref a1), (.int p2), (.int (4 : Int32)), (.int p4)] h0 (own_QP (some (.int cp)) h0 n0) := by
  refine own_enter pn_3 ?_
  intro p e s m below meth c s₁ X0 hx hby hml hown hret hlk hnm hZ e0
  have hml : c.maxLocals = 6 := hml
  have N0 := Fr.nil n0
  rw [ef_3 m a1 p2 (4 : Int32) p4]
  show own_Fin p e below s _ _ _ (s₁.setTop (mkF m 0 #[.val (.ref a1), .val (.int p2), .val (.int (4 : Int32)), .val (.int p4), .unset, .unset] []))
  refine own_Fin.step (fun _ => XS.aloadN X0.here hx rfl (hb hby d3_0) rfl rfl) ?_
  show own_Fin p e below s _ _ _ (s₁.setTop (mkF m 1 #[.val (.ref a1), .val (.int p2), .val (.int (4 : Int32)), .val (.int p4), .unset, .unset] [(.ref a1)]))
  refine own_Fin.step (fun _ => XS.iloadN X0.here hx rfl (hb hby d3_1) rfl) ?_
  show own_Fin p e below s _ _ _ (s₁.setTop (mkF m 2 #[.val (.ref a1), .val (.int p2), .val (.int (4 : Int32)), .val (.int p4), .unset, .unset] [(.int p2), (.ref a1)]))
  refine own_Fin.step (own_ldFB X0 hx hZ e0 F (j := p2) j0 (g := (mkF m 2 #[.val (.ref a1), .val (.int p2), .val (.int (4 : Int32)), .val (.int p4), .unset, .unset] [(.int p2), (.ref a1)])) rfl rfl (hb hby d3_2)) ?_
  show own_Fin p e below s _ _ _ (s₁.setTop (mkF m 3 #[.val (.ref a1), .val (.int p2), .val (.int (4 : Int32)), .val (.int p4), .unset, .unset] [(.int (f (p2).toNatClampNeg))]))
  rw [hx0]
  refine own_Fin.step (fun _ => XS.istore X0.here hx rfl (hb hby d3_3) rfl (l' := #[.val (.ref a1), .val (.int p2), .val (.int (4 : Int32)), .val (.int p4), .val (.int x0), .unset]) rfl) ?_
  show own_Fin p e below s _ _ _ (s₁.setTop (mkF m 5 #[.val (.ref a1), .val (.int p2), .val (.int (4 : Int32)), .val (.int p4), .val (.int x0), .unset] []))
  refine own_Fin.step (fun _ => XS.iloadN X0.here hx rfl (hb hby d3_5) rfl) ?_
  show own_Fin p e below s _ _ _ (s₁.setTop (mkF m 6 #[.val (.ref a1), .val (.int p2), .val (.int (4 : Int32)), .val (.int p4), .val (.int x0), .unset] [(.int (4 : Int32))]))
  refine own_Fin.step (fun _ => XS.iconst X0.here hx rfl (hb hby d3_6)) ?_
  show own_Fin p e below s _ _ _ (s₁.setTop (mkF m 7 #[.val (.ref a1), .val (.int p2), .val (.int (4 : Int32)), .val (.int p4), .val (.int x0), .unset] [(.int (2 : Int32)), (.int (4 : Int32))]))
  refine own_Fin.step (fun _ => XS.icmpYes X0.here hx rfl (pc0 := 7) (pc' := 28) rfl (hb hby d3_7) rfl (XT.ii_ne_t (by decide : ¬ ((4 : Int32) = (2 : Int32)))) (by decide) (by decide)) ?_
  show own_Fin p e below s _ _ _ (s₁.setTop (mkF m 28 #[.val (.ref a1), .val (.int p2), .val (.int (4 : Int32)), .val (.int p4), .val (.int x0), .unset] []))
  refine own_Fin.step (fun _ => XS.iloadN X0.here hx rfl (hb hby d3_28) rfl) ?_
  show own_Fin p e below s _ _ _ (s₁.setTop (mkF m 29 #[.val (.ref a1), .val (.int p2), .val (.int (4 : Int32)), .val (.int p4), .val (.int x0), .unset] [(.int (4 : Int32))]))
  refine own_Fin.step (fun _ => XS.iconst X0.here hx rfl (hb hby d3_29)) ?_
  show own_Fin p e below s _ _ _ (s₁.setTop (mkF m 30 #[.val (.ref a1), .val (.int p2), .val (.int (4 : Int32)), .val (.int p4), .val (.int x0), .unset] [(.int (3 : Int32)), (.int (4 : Int32))]))
  refine own_Fin.step (fun _ => XS.icmpYes X0.here hx rfl (pc0 := 30) (pc' := 97) rfl (hb hby d3_30) rfl (XT.ii_ne_t (by decide : ¬ ((4 : Int32) = (3 : Int32)))) (by decide) (by decide)) ?_
  show own_Fin p e below s _ _ _ (s₁.setTop (mkF m 97 #[.val (.ref a1), .val (.int p2), .val (.int (4 : Int32)), .val (.int p4), .val (.int x0), .unset] []))
  refine own_Fin.step (fun _ => XS.iload X0.here hx rfl (hb hby d3_97) rfl) ?_
  show own_Fin p e below s _ _ _ (s₁.setTop (mkF m 99 #[.val (.ref a1), .val (.int p2), .val (.int (4 : Int32)), .val (.int p4), .val (.int x0), .unset] [(.int x0)]))
  refine own_Fin.step (fun _ => XS.bipush X0.here hx rfl (hb hby d3_99)) ?_
  show own_Fin p e below s _ _ _ (s₁.setTop (mkF m 101 #[.val (.ref a1), .val (.int p2), .val (.int (4 : Int32)), .val (.int p4), .val (.int x0), .unset] [(.int (7 : Int32)), (.int x0)]))
  refine own_Fin.step (fun _ => XS.iand X0.here hx rfl (hb hby d3_101) rfl) ?_
  show own_Fin p e below s _ _ _ (s₁.setTop (mkF m 102 #[.val (.ref a1), .val (.int p2), .val (.int (4 : Int32)), .val (.int p4), .val (.int x0), .unset] [(.int (x0 &&& (7 : Int32)))]))
  refine own_Fin.step (fun _ => XS.bipush X0.here hx rfl (hb hby d3_102)) ?_
  show own_Fin p e below s _ _ _ (s₁.setTop (mkF m 104 #[.val (.ref a1), .val (.int p2), .val (.int (4 : Int32)), .val (.int p4), .val (.int x0), .unset] [(.int (18 : Int32)), (.int (x0 &&& (7 : Int32)))]))
  refine own_Fin.step (fun _ => XS.ishl X0.here hx rfl (hb hby d3_104) rfl) ?_
  show own_Fin p e below s _ _ _ (s₁.setTop (mkF m 105 #[.val (.ref a1), .val (.int p2), .val (.int (4 : Int32)), .val (.int p4), .val (.int x0), .unset] [(.int ((x0 &&& (7 : Int32)) <<< ((18 : Int32) &&& 31)))]))
  refine own_Fin.step (fun _ => XS.aloadN X0.here hx rfl (hb hby d3_105) rfl rfl) ?_
  show own_Fin p e below s _ _ _ (s₁.setTop (mkF m 106 #[.val (.ref a1), .val (.int p2), .val (.int (4 : Int32)), .val (.int p4), .val (.int x0), .unset] [(.ref a1), (.int ((x0 &&& (7 : Int32)) <<< ((18 : Int32) &&& 31)))]))
  refine own_Fin.step (fun _ => XS.iloadN X0.here hx rfl (hb hby d3_106) rfl) ?_
  show own_Fin p e below s _ _ _ (s₁.setTop (mkF m 107 #[.val (.ref a1), .val (.int p2), .val (.int (4 : Int32)), .val (.int p4), .val (.int x0), .unset] [(.int p2), (.ref a1), (.int ((x0 &&& (7 : Int32)) <<< ((18 : Int32) &&& 31)))]))
  refine own_Fin.step (fun _ => XS.iconst X0.here hx rfl (hb hby d3_107)) ?_
  show own_Fin p e below s _ _ _ (s₁.setTop (mkF m 108 #[.val (.ref a1), .val (.int p2), .val (.int (4 : Int32)), .val (.int p4), .val (.int x0), .unset] [(.int (1 : Int32)), (.int p2), (.ref a1), (.int ((x0 &&& (7 : Int32)) <<< ((18 : Int32) &&& 31)))]))
  refine own_Fin.step (fun _ => XS.iadd X0.here hx rfl (hb hby d3_108) rfl) ?_
  show own_Fin p e below s _ _ _ (s₁.setTop (mkF m 109 #[.val (.ref a1), .val (.int p2), .val (.int (4 : Int32)), .val (.int p4), .val (.int x0), .unset] [(.int (p2 + (1 : Int32))), (.ref a1), (.int ((x0 &&& (7 : Int32)) <<< ((18 : Int32) &&& 31)))]))
  refine own_Fin.step (own_ldFB X0 hx hZ e0 F (j := (p2 + (1 : Int32))) j1 (g := (mkF m 109 #[.val (.ref a1), .val (.int p2), .val (.int (4 : Int32)), .val (.int p4), .val (.int x0), .unset] [(.int (p2 + (1 : Int32))), (.ref a1), (.int ((x0 &&& (7 : Int32)) <<< ((18 : Int32) &&& 31)))])) rfl rfl (hb hby d3_109)) ?_
  show own_Fin p e below s _ _ _ (s₁.setTop (mkF m 110 #[.val (.ref a1), .val (.int p2), .val (.int (4 : Int32)), .val (.int p4), .val (.int x0), .unset] [(.int (f ((p2 + (1 : Int32))).toNatClampNeg)), (.int ((x0 &&& (7 : Int32)) <<< ((18 : Int32) &&& 31)))]))
  rw [hx1]
  obtain ⟨_, T1, L1, X1, ⟨rfl, N1q, e1⟩, st1⟩ := own_callS X0 hx hZ hown (own_w hw 6 rfl) (own_w hw 7 rfl) (own_w hw 4 rfl) (own_w hw 8 rfl) (by decide) (rm1 l Z a0 hw x1 h0 n0 Z0 Hx1) (by decide) (by decide) e0 (W := 1) (g := (mkF m 110 #[.val (.ref a1), .val (.int p2), .val (.int (4 : Int32)), .val (.int p4), .val (.int x0), .unset] [(.int x1), (.int ((x0 &&& (7 : Int32)) <<< ((18 : Int32) &&& 31)))])) rfl (by rw [hml]; rfl) (argsL := [(.int x1)]) (rest := [(.int ((x0 &&& (7 : Int32)) <<< ((18 : Int32) &&& 31)))]) (lenOf pd_0 rfl) rfl rfl (by show 2 * 0 + _ ≤ _; exact Nat.le_of_eq rfl) (hb hby d3_110) (by decide) (by decide)
  have N1 := Fr.app N0 N1q
  refine own_Fin.step st1 ?_
  show own_Fin p e below s _ _ _ (T1.setTop (mkF m 113 #[.val (.ref a1), .val (.int p2), .val (.int (4 : Int32)), .val (.int p4), .val (.int x0), .unset] [(.int (x1 &&& (63 : Int32))), (.int ((x0 &&& (7 : Int32)) <<< ((18 : Int32) &&& 31)))]))
  refine own_Fin.step (fun _ => XS.bipush X1.here hx rfl (hb hby d3_113)) ?_
  show own_Fin p e below s _ _ _ (T1.setTop (mkF m 115 #[.val (.ref a1), .val (.int p2), .val (.int (4 : Int32)), .val (.int p4), .val (.int x0), .unset] [(.int (12 : Int32)), (.int (x1 &&& (63 : Int32))), (.int ((x0 &&& (7 : Int32)) <<< ((18 : Int32) &&& 31)))]))
  refine own_Fin.step (fun _ => XS.ishl X1.here hx rfl (hb hby d3_115) rfl) ?_
  show own_Fin p e below s _ _ _ (T1.setTop (mkF m 116 #[.val (.ref a1), .val (.int p2), .val (.int (4 : Int32)), .val (.int p4), .val (.int x0), .unset] [(.int ((x1 &&& (63 : Int32)) <<< ((12 : Int32) &&& 31))), (.int ((x0 &&& (7 : Int32)) <<< ((18 : Int32) &&& 31)))]))
  refine own_Fin.step (fun _ => XS.ior X1.here hx rfl (hb hby d3_116) rfl) ?_
  show own_Fin p e below s _ _ _ (T1.setTop (mkF m 117 #[.val (.ref a1), .val (.int p2), .val (.int (4 : Int32)), .val (.int p4), .val (.int x0), .unset] [(.int (((x0 &&& (7 : Int32)) <<< ((18 : Int32) &&& 31)) ||| ((x1 &&& (63 : Int32)) <<< ((12 : Int32) &&& 31))))]))
  refine own_Fin.step (fun _ => XS.aloadN X1.here hx rfl (hb hby d3_117) rfl rfl) ?_
  show own_Fin p e below s _ _ _ (T1.setTop (mkF m 118 #[.val (.ref a1), .val (.int p2), .val (.int (4 : Int32)), .val (.int p4), .val (.int x0), .unset] [(.ref a1), (.int (((x0 &&& (7 : Int32)) <<< ((18 : Int32) &&& 31)) ||| ((x1 &&& (63 : Int32)) <<< ((12 : Int32) &&& 31))))]))
  refine own_Fin.step (fun _ => XS.iloadN X1.here hx rfl (hb hby d3_118) rfl) ?_
  show own_Fin p e below s _ _ _ (T1.setTop (mkF m 119 #[.val (.ref a1), .val (.int p2), .val (.int (4 : Int32)), .val (.int p4), .val (.int x0), .unset] [(.int p2), (.ref a1), (.int (((x0 &&& (7 : Int32)) <<< ((18 : Int32) &&& 31)) ||| ((x1 &&& (63 : Int32)) <<< ((12 : Int32) &&& 31))))]))
  refine own_Fin.step (fun _ => XS.iconst X1.here hx rfl (hb hby d3_119)) ?_
  show own_Fin p e below s _ _ _ (T1.setTop (mkF m 120 #[.val (.ref a1), .val (.int p2), .val (.int (4 : Int32)), .val (.int p4), .val (.int x0), .unset] [(.int (2 : Int32)), (.int p2), (.ref a1), (.int (((x0 &&& (7 : Int32)) <<< ((18 : Int32) &&& 31)) ||| ((x1 &&& (63 : Int32)) <<< ((12 : Int32) &&& 31))))]))
  refine own_Fin.step (fun _ => XS.iadd X1.here hx rfl (hb hby d3_120) rfl) ?_
  show own_Fin p e below s _ _ _ (T1.setTop (mkF m 121 #[.val (.ref a1), .val (.int p2), .val (.int (4 : Int32)), .val (.int p4), .val (.int x0), .unset] [(.int (p2 + (2 : Int32))), (.ref a1), (.int (((x0 &&& (7 : Int32)) <<< ((18 : Int32) &&& 31)) ||| ((x1 &&& (63 : Int32)) <<< ((12 : Int32) &&& 31))))]))
  refine own_Fin.step (own_ldFB X1 hx hZ e1 F (j := (p2 + (2 : Int32))) j2 (g := (mkF m 121 #[.val (.ref a1), .val (.int p2), .val (.int (4 : Int32)), .val (.int p4), .val (.int x0), .unset] [(.int (p2 + (2 : Int32))), (.ref a1), (.int (((x0 &&& (7 : Int32)) <<< ((18 : Int32) &&& 31)) ||| ((x1 &&& (63 : Int32)) <<< ((12 : Int32) &&& 31))))])) rfl rfl (hb hby d3_121)) ?_
  show own_Fin p e below s _ _ _ (T1.setTop (mkF m 122 #[.val (.ref a1), .val (.int p2), .val (.int (4 : Int32)), .val (.int p4), .val (.int x0), .unset] [(.int (f ((p2 + (2 : Int32))).toNatClampNeg)), (.int (((x0 &&& (7 : Int32)) <<< ((18 : Int32) &&& 31)) ||| ((x1 &&& (63 : Int32)) <<< ((12 : Int32) &&& 31))))]))
  rw [hx2]
  obtain ⟨_, T2, L2, X2, ⟨rfl, N2q, e2⟩, st2⟩ := own_callS X1 hx hZ hown (own_w hw 6 rfl) (own_w hw 7 rfl) (own_w hw 4 rfl) (own_w hw 8 rfl) (by decide) (rm1 l Z a0 hw x2 h0 n0 Z0 Hx2) (by decide) (by decide) e1 (W := 1) (g := (mkF m 122 #[.val (.ref a1), .val (.int p2), .val (.int (4 : Int32)), .val (.int p4), .val (.int x0), .unset] [(.int x2), (.int (((x0 &&& (7 : Int32)) <<< ((18 : Int32) &&& 31)) ||| ((x1 &&& (63 : Int32)) <<< ((12 : Int32) &&& 31))))])) rfl (by rw [hml]; rfl) (argsL := [(.int x2)]) (rest := [(.int (((x0 &&& (7 : Int32)) <<< ((18 : Int32) &&& 31)) ||| ((x1 &&& (63 : Int32)) <<< ((12 : Int32) &&& 31))))]) (lenOf pd_0 rfl) rfl rfl (by show 2 * 0 + _ ≤ _; exact Nat.le_of_eq rfl) (hb hby d3_122) (by decide) (by decide)
  have N2 := Fr.app N1 N2q
  refine own_Fin.step st2 ?_
  show own_Fin p e below s _ _ _ (T2.setTop (mkF m 125 #[.val (.ref a1), .val (.int p2), .val (.int (4 : Int32)), .val (.int p4), .val (.int x0), .unset] [(.int (x2 &&& (63 : Int32))), (.int (((x0 &&& (7 : Int32)) <<< ((18 : Int32) &&& 31)) ||| ((x1 &&& (63 : Int32)) <<< ((12 : Int32) &&& 31))))]))
  refine own_Fin.step (fun _ => XS.bipush X2.here hx rfl (hb hby d3_125)) ?_
  show own_Fin p e below s _ _ _ (T2.setTop (mkF m 127 #[.val (.ref a1), .val (.int p2), .val (.int (4 : Int32)), .val (.int p4), .val (.int x0), .unset] [(.int (6 : Int32)), (.int (x2 &&& (63 : Int32))), (.int (((x0 &&& (7 : Int32)) <<< ((18 : Int32) &&& 31)) ||| ((x1 &&& (63 : Int32)) <<< ((12 : Int32) &&& 31))))]))
  refine own_Fin.step (fun _ => XS.ishl X2.here hx rfl (hb hby d3_127) rfl) ?_
  show own_Fin p e below s _ _ _ (T2.setTop (mkF m 128 #[.val (.ref a1), .val (.int p2), .val (.int (4 : Int32)), .val (.int p4), .val (.int x0), .unset] [(.int ((x2 &&& (63 : Int32)) <<< ((6 : Int32) &&& 31))), (.int (((x0 &&& (7 : Int32)) <<< ((18 : Int32) &&& 31)) ||| ((x1 &&& (63 : Int32)) <<< ((12 : Int32) &&& 31))))]))
  refine own_Fin.step (fun _ => XS.ior X2.here hx rfl (hb hby d3_128) rfl) ?_
  show own_Fin p e below s _ _ _ (T2.setTop (mkF m 129 #[.val (.ref a1), .val (.int p2), .val (.int (4 : Int32)), .val (.int p4), .val (.int x0), .unset] [(.int ((((x0 &&& (7 : Int32)) <<< ((18 : Int32) &&& 31)) ||| ((x1 &&& (63 : Int32)) <<< ((12 : Int32) &&& 31))) ||| ((x2 &&& (63 : Int32)) <<< ((6 : Int32) &&& 31))))]))
  refine own_Fin.step (fun _ => XS.aloadN X2.here hx rfl (hb hby d3_129) rfl rfl) ?_
  show own_Fin p e below s _ _ _ (T2.setTop (mkF m 130 #[.val (.ref a1), .val (.int p2), .val (.int (4 : Int32)), .val (.int p4), .val (.int x0), .unset] [(.ref a1), (.int ((((x0 &&& (7 : Int32)) <<< ((18 : Int32) &&& 31)) ||| ((x1 &&& (63 : Int32)) <<< ((12 : Int32) &&& 31))) ||| ((x2 &&& (63 : Int32)) <<< ((6 : Int32) &&& 31))))]))
  refine own_Fin.step (fun _ => XS.iloadN X2.here hx rfl (hb hby d3_130) rfl) ?_
  show own_Fin p e below s _ _ _ (T2.setTop (mkF m 131 #[.val (.ref a1), .val (.int p2), .val (.int (4 : Int32)), .val (.int p4), .val (.int x0), .unset] [(.int p2), (.ref a1), (.int ((((x0 &&& (7 : Int32)) <<< ((18 : Int32) &&& 31)) ||| ((x1 &&& (63 : Int32)) <<< ((12 : Int32) &&& 31))) ||| ((x2 &&& (63 : Int32)) <<< ((6 : Int32) &&& 31))))]))
  refine own_Fin.step (fun _ => XS.iconst X2.here hx rfl (hb hby d3_131)) ?_
  show own_Fin p e below s _ _ _ (T2.setTop (mkF m 132 #[.val (.ref a1), .val (.int p2), .val (.int (4 : Int32)), .val (.int p4), .val (.int x0), .unset] [(.int (3 : Int32)), (.int p2), (.ref a1), (.int ((((x0 &&& (7 : Int32)) <<< ((18 : Int32) &&& 31)) ||| ((x1 &&& (63 : Int32)) <<< ((12 : Int32) &&& 31))) ||| ((x2 &&& (63 : Int32)) <<< ((6 : Int32) &&& 31))))]))
  refine own_Fin.step (fun _ => XS.iadd X2.here hx rfl (hb hby d3_132) rfl) ?_
  show own_Fin p e below s _ _ _ (T2.setTop (mkF m 133 #[.val (.ref a1), .val (.int p2), .val (.int (4 : Int32)), .val (.int p4), .val (.int x0), .unset] [(.int (p2 + (3 : Int32))), (.ref a1), (.int ((((x0 &&& (7 : Int32)) <<< ((18 : Int32) &&& 31)) ||| ((x1 &&& (63 : Int32)) <<< ((12 : Int32) &&& 31))) ||| ((x2 &&& (63 : Int32)) <<< ((6 : Int32) &&& 31))))]))
  refine own_Fin.step (own_ldFB X2 hx hZ e2 F (j := (p2 + (3 : Int32))) j3 (g := (mkF m 133 #[.val (.ref a1), .val (.int p2), .val (.int (4 : Int32)), .val (.int p4), .val (.int x0), .unset] [(.int (p2 + (3 : Int32))), (.ref a1), (.int ((((x0 &&& (7 : Int32)) <<< ((18 : Int32) &&& 31)) ||| ((x1 &&& (63 : Int32)) <<< ((12 : Int32) &&& 31))) ||| ((x2 &&& (63 : Int32)) <<< ((6 : Int32) &&& 31))))])) rfl rfl (hb hby d3_133)) ?_
  show own_Fin p e below s _ _ _ (T2.setTop (mkF m 134 #[.val (.ref a1), .val (.int p2), .val (.int (4 : Int32)), .val (.int p4), .val (.int x0), .unset] [(.int (f ((p2 + (3 : Int32))).toNatClampNeg)), (.int ((((x0 &&& (7 : Int32)) <<< ((18 : Int32) &&& 31)) ||| ((x1 &&& (63 : Int32)) <<< ((12 : Int32) &&& 31))) ||| ((x2 &&& (63 : Int32)) <<< ((6 : Int32) &&& 31))))]))
  rw [hx3]
  obtain ⟨_, T3, L3, X3, ⟨rfl, N3q, e3⟩, st3⟩ := own_callS X2 hx hZ hown (own_w hw 6 rfl) (own_w hw 7 rfl) (own_w hw 4 rfl) (own_w hw 8 rfl) (by decide) (rm1 l Z a0 hw x3 h0 n0 Z0 Hx3) (by decide) (by decide) e2 (W := 1) (g := (mkF m 134 #[.val (.ref a1), .val (.int p2), .val (.int (4 : Int32)), .val (.int p4), .val (.int x0), .unset] [(.int x3), (.int ((((x0 &&& (7 : Int32)) <<< ((18 : Int32) &&& 31)) ||| ((x1 &&& (63 : Int32)) <<< ((12 : Int32) &&& 31))) ||| ((x2 &&& (63 : Int32)) <<< ((6 : Int32) &&& 31))))])) rfl (by rw [hml]; rfl) (argsL := [(.int x3)]) (rest := [(.int ((((x0 &&& (7 : Int32)) <<< ((18 : Int32) &&& 31)) ||| ((x1 &&& (63 : Int32)) <<< ((12 : Int32) &&& 31))) ||| ((x2 &&& (63 : Int32)) <<< ((6 : Int32) &&& 31))))]) (lenOf pd_0 rfl) rfl rfl (by show 2 * 0 + _ ≤ _; exact Nat.le_of_eq rfl) (hb hby d3_134) (by decide) (by decide)
  have N3 := Fr.app N2 N3q
  refine own_Fin.step st3 ?_
  show own_Fin p e below s _ _ _ (T3.setTop (mkF m 137 #[.val (.ref a1), .val (.int p2), .val (.int (4 : Int32)), .val (.int p4), .val (.int x0), .unset] [(.int (x3 &&& (63 : Int32))), (.int ((((x0 &&& (7 : Int32)) <<< ((18 : Int32) &&& 31)) ||| ((x1 &&& (63 : Int32)) <<< ((12 : Int32) &&& 31))) ||| ((x2 &&& (63 : Int32)) <<< ((6 : Int32) &&& 31))))]))
  refine own_Fin.step (fun _ => XS.ior X3.here hx rfl (hb hby d3_137) rfl) ?_
  show own_Fin p e below s _ _ _ (T3.setTop (mkF m 138 #[.val (.ref a1), .val (.int p2), .val (.int (4 : Int32)), .val (.int p4), .val (.int x0), .unset] [(.int (((((x0 &&& (7 : Int32)) <<< ((18 : Int32) &&& 31)) ||| ((x1 &&& (63 : Int32)) <<< ((12 : Int32) &&& 31))) ||| ((x2 &&& (63 : Int32)) <<< ((6 : Int32) &&& 31))) ||| (x3 &&& (63 : Int32))))]))
  rw [hcp]
  refine own_Fin.step (fun _ => XS.istore X3.here hx rfl (hb hby d3_138) rfl (l' := #[.val (.ref a1), .val (.int p2), .val (.int (4 : Int32)), .val (.int p4), .val (.int x0), .val (.int cp)]) rfl) ?_
  show own_Fin p e below s _ _ _ (T3.setTop (mkF m 140 #[.val (.ref a1), .val (.int p2), .val (.int (4 : Int32)), .val (.int p4), .val (.int x0), .val (.int cp)] []))
  refine own_Fin.step (fun _ => XS.iload X3.here hx rfl (hb hby d3_140) rfl) ?_
  show own_Fin p e below s _ _ _ (T3.setTop (mkF m 142 #[.val (.ref a1), .val (.int p2), .val (.int (4 : Int32)), .val (.int p4), .val (.int x0), .val (.int cp)] [(.int cp)]))
  refine own_Fin.step (X3.ldcInt hx hown (mvT hZ (own_w hw 11 rfl)) (g := (mkF m 142 #[.val (.ref a1), .val (.int p2), .val (.int (4 : Int32)), .val (.int p4), .val (.int x0), .val (.int cp)] [(.int cp)])) rfl (hb hby d3_142)) ?_
  show own_Fin p e below s _ _ _ (T3.setTop (mkF m 144 #[.val (.ref a1), .val (.int p2), .val (.int (4 : Int32)), .val (.int p4), .val (.int x0), .val (.int cp)] [(.int (65536 : Int32)), (.int cp)]))
  refine own_Fin.step (fun _ => XS.icmpNo X3.here hx rfl (hb hby d3_144) rfl (XT.ii_lt_f Hlo)) ?_
  show own_Fin p e below s _ _ _ (T3.setTop (mkF m 147 #[.val (.ref a1), .val (.int p2), .val (.int (4 : Int32)), .val (.int p4), .val (.int x0), .val (.int cp)] []))
  refine own_Fin.step (fun _ => XS.iload X3.here hx rfl (hb hby d3_147) rfl) ?_
  show own_Fin p e below s _ _ _ (T3.setTop (mkF m 149 #[.val (.ref a1), .val (.int p2), .val (.int (4 : Int32)), .val (.int p4), .val (.int x0), .val (.int cp)] [(.int cp)]))
  refine own_Fin.step (X3.ldcInt hx hown (mvT hZ (own_w hw 12 rfl)) (g := (mkF m 149 #[.val (.ref a1), .val (.int p2), .val (.int (4 : Int32)), .val (.int p4), .val (.int x0), .val (.int cp)] [(.int cp)])) rfl (hb hby d3_149)) ?_
  show own_Fin p e below s _ _ _ (T3.setTop (mkF m 151 #[.val (.ref a1), .val (.int p2), .val (.int (4 : Int32)), .val (.int p4), .val (.int x0), .val (.int cp)] [(.int (1114111 : Int32)), (.int cp)]))
  refine own_Fin.step (fun _ => XS.icmpYes X3.here hx rfl (pc0 := 151) (pc' := 163) rfl (hb hby d3_151) rfl (XT.ii_le_t Hhi) (by decide) (by decide)) ?_
  show own_Fin p e below s _ _ _ (T3.setTop (mkF m 163 #[.val (.ref a1), .val (.int p2), .val (.int (4 : Int32)), .val (.int p4), .val (.int x0), .val (.int cp)] []))
  refine own_Fin.step (fun _ => XS.iload X3.here hx rfl (hb hby d3_163) rfl) ?_
  show own_Fin p e below s _ _ _ (T3.setTop (mkF m 165 #[.val (.ref a1), .val (.int p2), .val (.int (4 : Int32)), .val (.int p4), .val (.int x0), .val (.int cp)] [(.int cp)]))
  exact own_retI X3 hx hlk hret (hb hby d3_165) ⟨rfl, N3, e3⟩ (by decide) (by decide)
theorem pn_0 : plainFor (⟨"com/example/amphion/amphion/Utf8ReaderCodePointPinLaw", "law", "(IIIIJ)Z"⟩ : MethodName) = true := plainFor_of_name (by first | (simp [plainName, overriddenIn]; done) | decide +kernel)
theorem ef_0 (m : MethodId) (x0 : Int32) (x1 : Int32) (x2 : Int32) (x3 : Int32) (x4 : Int64) : entryFrame m #[(.int x0), (.int x1), (.int x2), (.int x3), (.long x4)] maxLocals = mkF m 0 #[.val (.int x0), .val (.int x1), .val (.int x2), .val (.int x3), .val (.long x4), .second, .unset, .unset, .unset, .unset, .unset, .unset] [] := by first | (simp [entryFrame, mkF, argsToLocals, Value.category, maxLocals]; done) | rfl
theorem pd_2 : parseMethodDescriptor "([BIIZ)I" = some ⟨[(.array .byte), .int, .int, .boolean], some .int⟩ := by decide +kernel
set_option maxRecDepth 65536 in
set_option maxHeartbeats 40000000 in
theorem rm0 (l : Launch) (Z : State) (a0 : Array Value) (hw : ∀ d ∈ tables_1, d.before a0 Z = true) (p1 : Int32) (p2 : Int32) (p3 : Int32) (p4 : Int32) (q5 : Int64)  (h0 : Heap) (n0 : Nat) (Z0 : n0 ≤ h0.size)  :
    own_Met l Z tables_1 x code maxLocals ret room_1 #[(.int p1), (.int p2), (.int p3), (.int p4), (.long q5)] h0 (own_Q0 n0) := by
  refine own_enter pn_0 ?_
  intro p e s m below meth c s₁ X0 hx hby hml hown hret hlk hnm hZ e0
  have hml : c.maxLocals = 12 := hml
  have N0 := Fr.nil n0
  rw [ef_0 m p1 p2 p3 p4 q5]
  show own_Fin p e below s _ _ _ (s₁.setTop (mkF m 0 #[.val (.int p1), .val (.int p2), .val (.int p3), .val (.int p4), .val (.long q5), .second, .unset, .unset, .unset, .unset, .unset, .unset] []))
  refine own_Fin.step (fun _ => XS.iconst X0.here hx rfl (hb hby at_0)) ?_
  show own_Fin p e below s _ _ _ (s₁.setTop (mkF m 1 #[.val (.int p1), .val (.int p2), .val (.int p3), .val (.int p4), .val (.long q5), .second, .unset, .unset, .unset, .unset, .unset, .unset] [(.int (2 : Int32))]))
  refine own_Fin.step (fun _ => XS.iloadN X0.here hx rfl (hb hby at_1) rfl) ?_
  show own_Fin p e below s _ _ _ (s₁.setTop (mkF m 2 #[.val (.int p1), .val (.int p2), .val (.int p3), .val (.int p4), .val (.long q5), .second, .unset, .unset, .unset, .unset, .unset, .unset] [(.int p2), (.int (2 : Int32))]))
  refine own_Fin.step (X0.ldcInt hx hown (mvT hZ (own_w hw 0 rfl)) (g := (mkF m 2 #[.val (.int p1), .val (.int p2), .val (.int p3), .val (.int p4), .val (.long q5), .second, .unset, .unset, .unset, .unset, .unset, .unset] [(.int p2), (.int (2 : Int32))])) rfl (hb hby at_2)) ?_
  show own_Fin p e below s _ _ _ (s₁.setTop (mkF m 4 #[.val (.int p1), .val (.int p2), .val (.int p3), .val (.int p4), .val (.long q5), .second, .unset, .unset, .unset, .unset, .unset, .unset] [(.int (2147483647 : Int32)), (.int p2), (.int (2 : Int32))]))
  refine own_Fin.step (fun _ => XS.iand X0.here hx rfl (hb hby at_4) rfl) ?_
  show own_Fin p e below s _ _ _ (s₁.setTop (mkF m 5 #[.val (.int p1), .val (.int p2), .val (.int p3), .val (.int p4), .val (.long q5), .second, .unset, .unset, .unset, .unset, .unset, .unset] [(.int (p2 &&& (2147483647 : Int32))), (.int (2 : Int32))]))
  refine own_Fin.step (fun _ => XS.iconst X0.here hx rfl (hb hby at_5)) ?_
  show own_Fin p e below s _ _ _ (s₁.setTop (mkF m 6 #[.val (.int p1), .val (.int p2), .val (.int p3), .val (.int p4), .val (.long q5), .second, .unset, .unset, .unset, .unset, .unset, .unset] [(.int (3 : Int32)), (.int (p2 &&& (2147483647 : Int32))), (.int (2 : Int32))]))
  refine own_Fin.step (fun _ => Jvm.RoadKit.iremM X0 hx rfl (hb hby at_6) rfl (by decide)) ?_
  show own_Fin p e below s _ _ _ (s₁.setTop (mkF m 7 #[.val (.int p1), .val (.int p2), .val (.int p3), .val (.int p4), .val (.long q5), .second, .unset, .unset, .unset, .unset, .unset, .unset] [(.int ((p2 &&& (2147483647 : Int32)) % (3 : Int32))), (.int (2 : Int32))]))
  refine own_Fin.step (fun _ => XS.iadd X0.here hx rfl (hb hby at_7) rfl) ?_
  show own_Fin p e below s _ _ _ (s₁.setTop (mkF m 8 #[.val (.int p1), .val (.int p2), .val (.int p3), .val (.int p4), .val (.long q5), .second, .unset, .unset, .unset, .unset, .unset, .unset] [(.int ((2 : Int32) + ((p2 &&& (2147483647 : Int32)) % (3 : Int32))))]))
  generalize hlen : ((2 : Int32) + ((p2 &&& (2147483647 : Int32)) % (3 : Int32))) = len
  rcases (hlen ▸ own_l3 p2 : len = 2 ∨ len = 3 ∨ len = 4) with rfl | rfl | rfl
  ·
    show own_Fin p e below s _ _ _ (s₁.setTop (mkF m 8 #[.val (.int p1), .val (.int p2), .val (.int p3), .val (.int p4), .val (.long q5), .second, .unset, .unset, .unset, .unset, .unset, .unset] [(.int (2 : Int32))]))
    refine own_Fin.step (fun _ => XS.istore X0.here hx rfl (hb hby at_8) rfl (l' := #[.val (.int p1), .val (.int p2), .val (.int p3), .val (.int p4), .val (.long q5), .second, .val (.int (2 : Int32)), .unset, .unset, .unset, .unset, .unset]) rfl) ?_
    show own_Fin p e below s _ _ _ (s₁.setTop (mkF m 10 #[.val (.int p1), .val (.int p2), .val (.int p3), .val (.int p4), .val (.long q5), .second, .val (.int (2 : Int32)), .unset, .unset, .unset, .unset, .unset] []))
    refine own_Fin.step (fun _ => XS.iloadN X0.here hx rfl (hb hby at_10) rfl) ?_
    show own_Fin p e below s _ _ _ (s₁.setTop (mkF m 11 #[.val (.int p1), .val (.int p2), .val (.int p3), .val (.int p4), .val (.long q5), .second, .val (.int (2 : Int32)), .unset, .unset, .unset, .unset, .unset] [(.int p3)]))
    refine own_Fin.step (fun _ => XS.iconst X0.here hx rfl (hb hby at_11)) ?_
    show own_Fin p e below s _ _ _ (s₁.setTop (mkF m 12 #[.val (.int p1), .val (.int p2), .val (.int p3), .val (.int p4), .val (.long q5), .second, .val (.int (2 : Int32)), .unset, .unset, .unset, .unset, .unset] [(.int (1 : Int32)), (.int p3)]))
    refine own_Fin.step (fun _ => XS.iand X0.here hx rfl (hb hby at_12) rfl) ?_
    show own_Fin p e below s _ _ _ (s₁.setTop (mkF m 13 #[.val (.int p1), .val (.int p2), .val (.int p3), .val (.int p4), .val (.long q5), .second, .val (.int (2 : Int32)), .unset, .unset, .unset, .unset, .unset] [(.int (p3 &&& (1 : Int32)))]))
    have st2 : ∀ t, Steps p.tables e below (s₁.setTop (mkF m 21 #[.val (.int p1), .val (.int p2), .val (.int p3), .val (.int p4), .val (.long q5), .second, .val (.int (2 : Int32)), .unset, .unset, .unset, .unset, .unset] [(.int (if (p3 &&& (1 : Int32)) = (0 : Int32) then (0 : Int32) else (1 : Int32)))])) t → Steps p.tables e below (s₁.setTop (mkF m 13 #[.val (.int p1), .val (.int p2), .val (.int p3), .val (.int p4), .val (.long q5), .second, .val (.int (2 : Int32)), .unset, .unset, .unset, .unset, .unset] [(.int (p3 &&& (1 : Int32)))])) t := by
      intro t kt
      by_cases hc13_1 : (p3 &&& (1 : Int32)) = (0 : Int32)
      · simp only [if_pos hc13_1] at kt
        refine XS.ifYes X0.here hx rfl (pc0 := 13) (pc' := 20) rfl (hb hby at_13) rfl (XT.i0_eq_t hc13_1) (by decide) (by decide) ?_
        show Steps p.tables e below (s₁.setTop (mkF m 20 #[.val (.int p1), .val (.int p2), .val (.int p3), .val (.int p4), .val (.long q5), .second, .val (.int (2 : Int32)), .unset, .unset, .unset, .unset, .unset] [])) _
        refine XS.iconst X0.here hx rfl (hb hby at_20) ?_
        exact kt
      · simp only [if_neg hc13_1] at kt
        refine XS.ifNo X0.here hx rfl (hb hby at_13) rfl (XT.i0_eq_f hc13_1) ?_
        show Steps p.tables e below (s₁.setTop (mkF m 16 #[.val (.int p1), .val (.int p2), .val (.int p3), .val (.int p4), .val (.long q5), .second, .val (.int (2 : Int32)), .unset, .unset, .unset, .unset, .unset] [])) _
        refine XS.iconst X0.here hx rfl (hb hby at_16) ?_
        show Steps p.tables e below (s₁.setTop (mkF m 17 #[.val (.int p1), .val (.int p2), .val (.int p3), .val (.int p4), .val (.long q5), .second, .val (.int (2 : Int32)), .unset, .unset, .unset, .unset, .unset] [(.int (1 : Int32))])) _
        refine XS.goto X0.here hx rfl (pc0 := 17) (pc' := 21) rfl (hb hby at_17) (by decide) (by decide) ?_
        exact kt
    refine own_Fin.step st2 ?_
    show own_Fin p e below s _ _ _ (s₁.setTop (mkF m 21 #[.val (.int p1), .val (.int p2), .val (.int p3), .val (.int p4), .val (.long q5), .second, .val (.int (2 : Int32)), .unset, .unset, .unset, .unset, .unset] [(.int (if (p3 &&& (1 : Int32)) = (0 : Int32) then (0 : Int32) else (1 : Int32)))]))
    generalize hsu : (if (p3 &&& (1 : Int32)) = (0 : Int32) then (0 : Int32) else (1 : Int32)) = su
    refine own_Fin.step (fun _ => XS.istore X0.here hx rfl (hb hby at_21) rfl (l' := #[.val (.int p1), .val (.int p2), .val (.int p3), .val (.int p4), .val (.long q5), .second, .val (.int (2 : Int32)), .val (.int su), .unset, .unset, .unset, .unset]) rfl) ?_
    show own_Fin p e below s _ _ _ (s₁.setTop (mkF m 23 #[.val (.int p1), .val (.int p2), .val (.int p3), .val (.int p4), .val (.long q5), .second, .val (.int (2 : Int32)), .val (.int su), .unset, .unset, .unset, .unset] []))
    refine own_Fin.step (fun _ => XS.iloadN X0.here hx rfl (hb hby at_23) rfl) ?_
    show own_Fin p e below s _ _ _ (s₁.setTop (mkF m 24 #[.val (.int p1), .val (.int p2), .val (.int p3), .val (.int p4), .val (.long q5), .second, .val (.int (2 : Int32)), .val (.int su), .unset, .unset, .unset, .unset] [(.int p1)]))
    refine own_Fin.step (X0.ldcInt hx hown (mvT hZ (own_w hw 0 rfl)) (g := (mkF m 24 #[.val (.int p1), .val (.int p2), .val (.int p3), .val (.int p4), .val (.long q5), .second, .val (.int (2 : Int32)), .val (.int su), .unset, .unset, .unset, .unset] [(.int p1)])) rfl (hb hby at_24)) ?_
    show own_Fin p e below s _ _ _ (s₁.setTop (mkF m 26 #[.val (.int p1), .val (.int p2), .val (.int p3), .val (.int p4), .val (.long q5), .second, .val (.int (2 : Int32)), .val (.int su), .unset, .unset, .unset, .unset] [(.int (2147483647 : Int32)), (.int p1)]))
    refine own_Fin.step (fun _ => XS.iand X0.here hx rfl (hb hby at_26) rfl) ?_
    show own_Fin p e below s _ _ _ (s₁.setTop (mkF m 27 #[.val (.int p1), .val (.int p2), .val (.int p3), .val (.int p4), .val (.long q5), .second, .val (.int (2 : Int32)), .val (.int su), .unset, .unset, .unset, .unset] [(.int (p1 &&& (2147483647 : Int32)))]))
    generalize hrr : (p1 &&& (2147483647 : Int32)) = rr
    have hr : 0 ≤ rr.toInt := hrr ▸ own_nn p1
    refine own_Fin.step (fun _ => XS.istore X0.here hx rfl (hb hby at_27) rfl (l' := #[.val (.int p1), .val (.int p2), .val (.int p3), .val (.int p4), .val (.long q5), .second, .val (.int (2 : Int32)), .val (.int su), .val (.int rr), .unset, .unset, .unset]) rfl) ?_
    show own_Fin p e below s _ _ _ (s₁.setTop (mkF m 29 #[.val (.int p1), .val (.int p2), .val (.int p3), .val (.int p4), .val (.long q5), .second, .val (.int (2 : Int32)), .val (.int su), .val (.int rr), .unset, .unset, .unset] []))
    refine own_Fin.step (fun _ => XS.iload X0.here hx rfl (hb hby at_29) rfl) ?_
    show own_Fin p e below s _ _ _ (s₁.setTop (mkF m 31 #[.val (.int p1), .val (.int p2), .val (.int p3), .val (.int p4), .val (.long q5), .second, .val (.int (2 : Int32)), .val (.int su), .val (.int rr), .unset, .unset, .unset] [(.int (2 : Int32))]))
    refine own_Fin.step (fun _ => XS.iconst X0.here hx rfl (hb hby at_31)) ?_
    show own_Fin p e below s _ _ _ (s₁.setTop (mkF m 32 #[.val (.int p1), .val (.int p2), .val (.int p3), .val (.int p4), .val (.long q5), .second, .val (.int (2 : Int32)), .val (.int su), .val (.int rr), .unset, .unset, .unset] [(.int (2 : Int32)), (.int (2 : Int32))]))
    refine own_Fin.step (fun _ => XS.icmpNo X0.here hx rfl (hb hby at_32) rfl (XT.ii_ne_f (by decide : (2 : Int32) = (2 : Int32)))) ?_
    show own_Fin p e below s _ _ _ (s₁.setTop (mkF m 35 #[.val (.int p1), .val (.int p2), .val (.int p3), .val (.int p4), .val (.long q5), .second, .val (.int (2 : Int32)), .val (.int su), .val (.int rr), .unset, .unset, .unset] []))
    refine own_Fin.step (fun _ => XS.sipush X0.here hx rfl (hb hby at_35)) ?_
    show own_Fin p e below s _ _ _ (s₁.setTop (mkF m 38 #[.val (.int p1), .val (.int p2), .val (.int p3), .val (.int p4), .val (.long q5), .second, .val (.int (2 : Int32)), .val (.int su), .val (.int rr), .unset, .unset, .unset] [(.int (128 : Int32))]))
    refine own_Fin.step (fun _ => XS.iload X0.here hx rfl (hb hby at_38) rfl) ?_
    show own_Fin p e below s _ _ _ (s₁.setTop (mkF m 40 #[.val (.int p1), .val (.int p2), .val (.int p3), .val (.int p4), .val (.long q5), .second, .val (.int (2 : Int32)), .val (.int su), .val (.int rr), .unset, .unset, .unset] [(.int rr), (.int (128 : Int32))]))
    refine own_Fin.step (fun _ => XS.sipush X0.here hx rfl (hb hby at_40)) ?_
    show own_Fin p e below s _ _ _ (s₁.setTop (mkF m 43 #[.val (.int p1), .val (.int p2), .val (.int p3), .val (.int p4), .val (.long q5), .second, .val (.int (2 : Int32)), .val (.int su), .val (.int rr), .unset, .unset, .unset] [(.int (1920 : Int32)), (.int rr), (.int (128 : Int32))]))
    refine own_Fin.step (fun _ => Jvm.RoadKit.iremM X0 hx rfl (hb hby at_43) rfl (by decide)) ?_
    show own_Fin p e below s _ _ _ (s₁.setTop (mkF m 44 #[.val (.int p1), .val (.int p2), .val (.int p3), .val (.int p4), .val (.long q5), .second, .val (.int (2 : Int32)), .val (.int su), .val (.int rr), .unset, .unset, .unset] [(.int (rr % (1920 : Int32))), (.int (128 : Int32))]))
    refine own_Fin.step (fun _ => XS.iadd X0.here hx rfl (hb hby at_44) rfl) ?_
    show own_Fin p e below s _ _ _ (s₁.setTop (mkF m 45 #[.val (.int p1), .val (.int p2), .val (.int p3), .val (.int p4), .val (.long q5), .second, .val (.int (2 : Int32)), .val (.int su), .val (.int rr), .unset, .unset, .unset] [(.int ((128 : Int32) + (rr % (1920 : Int32))))]))
    generalize hcp0 : ((128 : Int32) + (rr % (1920 : Int32))) = cp
    have hcp : 128 ≤ cp.toInt ∧ cp.toInt < 2048 := hcp0 ▸ own_off (bv := 128) (d := 1920) (by decide) (by decide) hr (by decide) (by decide) (by decide)
    refine own_Fin.step (fun _ => XS.istore X0.here hx rfl (hb hby at_45) rfl (l' := #[.val (.int p1), .val (.int p2), .val (.int p3), .val (.int p4), .val (.long q5), .second, .val (.int (2 : Int32)), .val (.int su), .val (.int rr), .val (.int cp), .unset, .unset]) rfl) ?_
    show own_Fin p e below s _ _ _ (s₁.setTop (mkF m 47 #[.val (.int p1), .val (.int p2), .val (.int p3), .val (.int p4), .val (.long q5), .second, .val (.int (2 : Int32)), .val (.int su), .val (.int rr), .val (.int cp), .unset, .unset] []))
    refine own_Fin.step (fun _ => XS.goto X0.here hx rfl (pc0 := 47) (pc' := 107) rfl (hb hby at_47) (by decide) (by decide)) ?_
    show own_Fin p e below s _ _ _ (s₁.setTop (mkF m 107 #[.val (.int p1), .val (.int p2), .val (.int p3), .val (.int p4), .val (.long q5), .second, .val (.int (2 : Int32)), .val (.int su), .val (.int rr), .val (.int cp), .unset, .unset] []))
    refine own_Fin.step (fun _ => XS.bipush X0.here hx rfl (hb hby at_107)) ?_
    show own_Fin p e below s _ _ _ (s₁.setTop (mkF m 109 #[.val (.int p1), .val (.int p2), .val (.int p3), .val (.int p4), .val (.long q5), .second, .val (.int (2 : Int32)), .val (.int su), .val (.int rr), .val (.int cp), .unset, .unset] [(.int (6 : Int32))]))
    obtain ⟨T3, h3, k3, b3, X3, e3, E3, g3, V3, st3⟩ := own_newA X0 hx hZ (own_w hw 1 rfl) e0 (ty := .byte) (dv := (.int (0 : Int32))) rfl rfl (g := (mkF m 109 #[.val (.int p1), .val (.int p2), .val (.int p3), .val (.int p4), .val (.long q5), .second, .val (.int (2 : Int32)), .val (.int su), .val (.int rr), .val (.int cp), .unset, .unset] [(.int (6 : Int32))])) rfl (hb hby at_109) rfl (by decide) (cap := 6) (by decide) (by decide) (by decide) (by decide) (6)
    have ge4 : n0 ≤ b3 := Nat.le_trans Z0 (Nat.le_of_eq g3.symm)
    have Z3 : n0 ≤ h3.size := Nat.le_trans Z0 E3.1
    have V3' : Arv Z h3 b3 k3 .byte (6 : Int32) [(.int (0 : Int32)), (.int (0 : Int32)), (.int (0 : Int32)), (.int (0 : Int32)), (.int (0 : Int32)), (.int (0 : Int32))] (.int (0 : Int32)) := V3
    refine own_Fin.step st3 ?_
    show own_Fin p e below s _ _ _ (T3.setTop (mkF m 111 #[.val (.int p1), .val (.int p2), .val (.int p3), .val (.int p4), .val (.long q5), .second, .val (.int (2 : Int32)), .val (.int su), .val (.int rr), .val (.int cp), .unset, .unset] [(.ref b3)]))
    have Vf5 := own_Arf.of (N := 6) V3'
    refine own_Fin.step (fun _ => XS.astore X3.here hx rfl (hb hby at_111) rfl rfl (l' := #[.val (.int p1), .val (.int p2), .val (.int p3), .val (.int p4), .val (.long q5), .second, .val (.int (2 : Int32)), .val (.int su), .val (.int rr), .val (.int cp), .val (.ref b3), .unset]) rfl) ?_
    show own_Fin p e below s _ _ _ (T3.setTop (mkF m 113 #[.val (.int p1), .val (.int p2), .val (.int p3), .val (.int p4), .val (.long q5), .second, .val (.int (2 : Int32)), .val (.int su), .val (.int rr), .val (.int cp), .val (.ref b3), .unset] []))
    refine own_Fin.step (fun _ => XS.aload X3.here hx rfl (hb hby at_113) rfl rfl) ?_
    show own_Fin p e below s _ _ _ (T3.setTop (mkF m 115 #[.val (.int p1), .val (.int p2), .val (.int p3), .val (.int p4), .val (.long q5), .second, .val (.int (2 : Int32)), .val (.int su), .val (.int rr), .val (.int cp), .val (.ref b3), .unset] [(.ref b3)]))
    refine own_Fin.step (fun _ => XS.iconst X3.here hx rfl (hb hby at_115)) ?_
    show own_Fin p e below s _ _ _ (T3.setTop (mkF m 116 #[.val (.int p1), .val (.int p2), .val (.int p3), .val (.int p4), .val (.long q5), .second, .val (.int (2 : Int32)), .val (.int su), .val (.int rr), .val (.int cp), .val (.ref b3), .unset] [(.int (0 : Int32)), (.ref b3)]))
    refine own_Fin.step (fun _ => XS.lload X3.here hx rfl (hb hby at_116) rfl) ?_
    show own_Fin p e below s _ _ _ (T3.setTop (mkF m 118 #[.val (.int p1), .val (.int p2), .val (.int p3), .val (.int p4), .val (.long q5), .second, .val (.int (2 : Int32)), .val (.int su), .val (.int rr), .val (.int cp), .val (.ref b3), .unset] [(.long q5), (.int (0 : Int32)), (.ref b3)]))
    refine own_Fin.step (fun _ => XS.l2i X3.here hx rfl (hb hby at_118) rfl) ?_
    show own_Fin p e below s _ _ _ (T3.setTop (mkF m 119 #[.val (.int p1), .val (.int p2), .val (.int p3), .val (.int p4), .val (.long q5), .second, .val (.int (2 : Int32)), .val (.int su), .val (.int rr), .val (.int cp), .val (.ref b3), .unset] [(.int (q5.toInt32)), (.int (0 : Int32)), (.ref b3)]))
    refine own_Fin.step (fun _ => XS.i2b X3.here hx rfl (hb hby at_119) rfl) ?_
    show own_Fin p e below s _ _ _ (T3.setTop (mkF m 120 #[.val (.int p1), .val (.int p2), .val (.int p3), .val (.int p4), .val (.long q5), .second, .val (.int (2 : Int32)), .val (.int su), .val (.int rr), .val (.int cp), .val (.ref b3), .unset] [(.int ((q5.toInt32).toInt8.toInt32)), (.int (0 : Int32)), (.ref b3)]))
    obtain ⟨T6, h6, X6, e6, V6, W6, st6⟩ := own_stFB X3 hx hZ e3 Vf5 (j := (0 : Int32)) ⟨by decide, by decide⟩ (g := (mkF m 120 #[.val (.int p1), .val (.int p2), .val (.int p3), .val (.int p4), .val (.long q5), .second, .val (.int (2 : Int32)), .val (.int su), .val (.int rr), .val (.int cp), .val (.ref b3), .unset] [(.int ((q5.toInt32).toInt8.toInt32)), (.int (0 : Int32)), (.ref b3)])) rfl rfl (hb hby at_120)
    have N6 := Fr.snoc X6 N0 ge4
    have Z6 : n0 ≤ h6.size := Nat.le_trans Z3 (Nat.le_of_eq W6.size.symm)
    refine own_Fin.step st6 ?_
    show own_Fin p e below s _ _ _ (T6.setTop (mkF m 121 #[.val (.int p1), .val (.int p2), .val (.int p3), .val (.int p4), .val (.long q5), .second, .val (.int (2 : Int32)), .val (.int su), .val (.int rr), .val (.int cp), .val (.ref b3), .unset] []))
    refine own_Fin.step (fun _ => XS.aload X6.here hx rfl (hb hby at_121) rfl rfl) ?_
    show own_Fin p e below s _ _ _ (T6.setTop (mkF m 123 #[.val (.int p1), .val (.int p2), .val (.int p3), .val (.int p4), .val (.long q5), .second, .val (.int (2 : Int32)), .val (.int su), .val (.int rr), .val (.int cp), .val (.ref b3), .unset] [(.ref b3)]))
    refine own_Fin.step (fun _ => XS.iconst X6.here hx rfl (hb hby at_123)) ?_
    show own_Fin p e below s _ _ _ (T6.setTop (mkF m 124 #[.val (.int p1), .val (.int p2), .val (.int p3), .val (.int p4), .val (.long q5), .second, .val (.int (2 : Int32)), .val (.int su), .val (.int rr), .val (.int cp), .val (.ref b3), .unset] [(.int (1 : Int32)), (.ref b3)]))
    refine own_Fin.step (fun _ => XS.lload X6.here hx rfl (hb hby at_124) rfl) ?_
    show own_Fin p e below s _ _ _ (T6.setTop (mkF m 126 #[.val (.int p1), .val (.int p2), .val (.int p3), .val (.int p4), .val (.long q5), .second, .val (.int (2 : Int32)), .val (.int su), .val (.int rr), .val (.int cp), .val (.ref b3), .unset] [(.long q5), (.int (1 : Int32)), (.ref b3)]))
    refine own_Fin.step (fun _ => XS.bipush X6.here hx rfl (hb hby at_126)) ?_
    show own_Fin p e below s _ _ _ (T6.setTop (mkF m 128 #[.val (.int p1), .val (.int p2), .val (.int p3), .val (.int p4), .val (.long q5), .second, .val (.int (2 : Int32)), .val (.int su), .val (.int rr), .val (.int cp), .val (.ref b3), .unset] [(.int (8 : Int32)), (.long q5), (.int (1 : Int32)), (.ref b3)]))
    refine own_Fin.step (fun _ => XS.lushr X6.here hx rfl (hb hby at_128) rfl) ?_
    show own_Fin p e below s _ _ _ (T6.setTop (mkF m 129 #[.val (.int p1), .val (.int p2), .val (.int p3), .val (.int p4), .val (.long q5), .second, .val (.int (2 : Int32)), .val (.int su), .val (.int rr), .val (.int cp), .val (.ref b3), .unset] [(.long ((q5.toUInt64 >>> ((8 : Int32) &&& 0x3f).toInt64.toUInt64).toInt64)), (.int (1 : Int32)), (.ref b3)]))
    refine own_Fin.step (fun _ => XS.l2i X6.here hx rfl (hb hby at_129) rfl) ?_
    show own_Fin p e below s _ _ _ (T6.setTop (mkF m 130 #[.val (.int p1), .val (.int p2), .val (.int p3), .val (.int p4), .val (.long q5), .second, .val (.int (2 : Int32)), .val (.int su), .val (.int rr), .val (.int cp), .val (.ref b3), .unset] [(.int (((q5.toUInt64 >>> ((8 : Int32) &&& 0x3f).toInt64.toUInt64).toInt64).toInt32)), (.int (1 : Int32)), (.ref b3)]))
    refine own_Fin.step (fun _ => XS.i2b X6.here hx rfl (hb hby at_130) rfl) ?_
    show own_Fin p e below s _ _ _ (T6.setTop (mkF m 131 #[.val (.int p1), .val (.int p2), .val (.int p3), .val (.int p4), .val (.long q5), .second, .val (.int (2 : Int32)), .val (.int su), .val (.int rr), .val (.int cp), .val (.ref b3), .unset] [(.int ((((q5.toUInt64 >>> ((8 : Int32) &&& 0x3f).toInt64.toUInt64).toInt64).toInt32).toInt8.toInt32)), (.int (1 : Int32)), (.ref b3)]))
    obtain ⟨T8, h8, X8, e8, V8, W8, st8⟩ := own_stFB X6 hx hZ e6 V6 (j := (1 : Int32)) ⟨by decide, by decide⟩ (g := (mkF m 131 #[.val (.int p1), .val (.int p2), .val (.int p3), .val (.int p4), .val (.long q5), .second, .val (.int (2 : Int32)), .val (.int su), .val (.int rr), .val (.int cp), .val (.ref b3), .unset] [(.int ((((q5.toUInt64 >>> ((8 : Int32) &&& 0x3f).toInt64.toUInt64).toInt64).toInt32).toInt8.toInt32)), (.int (1 : Int32)), (.ref b3)])) rfl rfl (hb hby at_131)
    have N8 := Fr.snoc X8 N6 ge4
    have Z8 : n0 ≤ h8.size := Nat.le_trans Z6 (Nat.le_of_eq W8.size.symm)
    refine own_Fin.step st8 ?_
    show own_Fin p e below s _ _ _ (T8.setTop (mkF m 132 #[.val (.int p1), .val (.int p2), .val (.int p3), .val (.int p4), .val (.long q5), .second, .val (.int (2 : Int32)), .val (.int su), .val (.int rr), .val (.int cp), .val (.ref b3), .unset] []))
    refine own_Fin.step (fun _ => XS.aload X8.here hx rfl (hb hby at_132) rfl rfl) ?_
    show own_Fin p e below s _ _ _ (T8.setTop (mkF m 134 #[.val (.int p1), .val (.int p2), .val (.int p3), .val (.int p4), .val (.long q5), .second, .val (.int (2 : Int32)), .val (.int su), .val (.int rr), .val (.int cp), .val (.ref b3), .unset] [(.ref b3)]))
    refine own_Fin.step (fun _ => XS.iconst X8.here hx rfl (hb hby at_134)) ?_
    show own_Fin p e below s _ _ _ (T8.setTop (mkF m 135 #[.val (.int p1), .val (.int p2), .val (.int p3), .val (.int p4), .val (.long q5), .second, .val (.int (2 : Int32)), .val (.int su), .val (.int rr), .val (.int cp), .val (.ref b3), .unset] [(.int (2 : Int32)), (.ref b3)]))
    refine own_Fin.step (fun _ => XS.lload X8.here hx rfl (hb hby at_135) rfl) ?_
    show own_Fin p e below s _ _ _ (T8.setTop (mkF m 137 #[.val (.int p1), .val (.int p2), .val (.int p3), .val (.int p4), .val (.long q5), .second, .val (.int (2 : Int32)), .val (.int su), .val (.int rr), .val (.int cp), .val (.ref b3), .unset] [(.long q5), (.int (2 : Int32)), (.ref b3)]))
    refine own_Fin.step (fun _ => XS.bipush X8.here hx rfl (hb hby at_137)) ?_
    show own_Fin p e below s _ _ _ (T8.setTop (mkF m 139 #[.val (.int p1), .val (.int p2), .val (.int p3), .val (.int p4), .val (.long q5), .second, .val (.int (2 : Int32)), .val (.int su), .val (.int rr), .val (.int cp), .val (.ref b3), .unset] [(.int (16 : Int32)), (.long q5), (.int (2 : Int32)), (.ref b3)]))
    refine own_Fin.step (fun _ => XS.lushr X8.here hx rfl (hb hby at_139) rfl) ?_
    show own_Fin p e below s _ _ _ (T8.setTop (mkF m 140 #[.val (.int p1), .val (.int p2), .val (.int p3), .val (.int p4), .val (.long q5), .second, .val (.int (2 : Int32)), .val (.int su), .val (.int rr), .val (.int cp), .val (.ref b3), .unset] [(.long ((q5.toUInt64 >>> ((16 : Int32) &&& 0x3f).toInt64.toUInt64).toInt64)), (.int (2 : Int32)), (.ref b3)]))
    refine own_Fin.step (fun _ => XS.l2i X8.here hx rfl (hb hby at_140) rfl) ?_
    show own_Fin p e below s _ _ _ (T8.setTop (mkF m 141 #[.val (.int p1), .val (.int p2), .val (.int p3), .val (.int p4), .val (.long q5), .second, .val (.int (2 : Int32)), .val (.int su), .val (.int rr), .val (.int cp), .val (.ref b3), .unset] [(.int (((q5.toUInt64 >>> ((16 : Int32) &&& 0x3f).toInt64.toUInt64).toInt64).toInt32)), (.int (2 : Int32)), (.ref b3)]))
    refine own_Fin.step (fun _ => XS.i2b X8.here hx rfl (hb hby at_141) rfl) ?_
    show own_Fin p e below s _ _ _ (T8.setTop (mkF m 142 #[.val (.int p1), .val (.int p2), .val (.int p3), .val (.int p4), .val (.long q5), .second, .val (.int (2 : Int32)), .val (.int su), .val (.int rr), .val (.int cp), .val (.ref b3), .unset] [(.int ((((q5.toUInt64 >>> ((16 : Int32) &&& 0x3f).toInt64.toUInt64).toInt64).toInt32).toInt8.toInt32)), (.int (2 : Int32)), (.ref b3)]))
    obtain ⟨T10, h10, X10, e10, V10, W10, st10⟩ := own_stFB X8 hx hZ e8 V8 (j := (2 : Int32)) ⟨by decide, by decide⟩ (g := (mkF m 142 #[.val (.int p1), .val (.int p2), .val (.int p3), .val (.int p4), .val (.long q5), .second, .val (.int (2 : Int32)), .val (.int su), .val (.int rr), .val (.int cp), .val (.ref b3), .unset] [(.int ((((q5.toUInt64 >>> ((16 : Int32) &&& 0x3f).toInt64.toUInt64).toInt64).toInt32).toInt8.toInt32)), (.int (2 : Int32)), (.ref b3)])) rfl rfl (hb hby at_142)
    have N10 := Fr.snoc X10 N8 ge4
    have Z10 : n0 ≤ h10.size := Nat.le_trans Z8 (Nat.le_of_eq W10.size.symm)
    refine own_Fin.step st10 ?_
    show own_Fin p e below s _ _ _ (T10.setTop (mkF m 143 #[.val (.int p1), .val (.int p2), .val (.int p3), .val (.int p4), .val (.long q5), .second, .val (.int (2 : Int32)), .val (.int su), .val (.int rr), .val (.int cp), .val (.ref b3), .unset] []))
    refine own_Fin.step (fun _ => XS.aload X10.here hx rfl (hb hby at_143) rfl rfl) ?_
    show own_Fin p e below s _ _ _ (T10.setTop (mkF m 145 #[.val (.int p1), .val (.int p2), .val (.int p3), .val (.int p4), .val (.long q5), .second, .val (.int (2 : Int32)), .val (.int su), .val (.int rr), .val (.int cp), .val (.ref b3), .unset] [(.ref b3)]))
    refine own_Fin.step (fun _ => XS.iconst X10.here hx rfl (hb hby at_145)) ?_
    show own_Fin p e below s _ _ _ (T10.setTop (mkF m 146 #[.val (.int p1), .val (.int p2), .val (.int p3), .val (.int p4), .val (.long q5), .second, .val (.int (2 : Int32)), .val (.int su), .val (.int rr), .val (.int cp), .val (.ref b3), .unset] [(.int (3 : Int32)), (.ref b3)]))
    refine own_Fin.step (fun _ => XS.lload X10.here hx rfl (hb hby at_146) rfl) ?_
    show own_Fin p e below s _ _ _ (T10.setTop (mkF m 148 #[.val (.int p1), .val (.int p2), .val (.int p3), .val (.int p4), .val (.long q5), .second, .val (.int (2 : Int32)), .val (.int su), .val (.int rr), .val (.int cp), .val (.ref b3), .unset] [(.long q5), (.int (3 : Int32)), (.ref b3)]))
    refine own_Fin.step (fun _ => XS.bipush X10.here hx rfl (hb hby at_148)) ?_
    show own_Fin p e below s _ _ _ (T10.setTop (mkF m 150 #[.val (.int p1), .val (.int p2), .val (.int p3), .val (.int p4), .val (.long q5), .second, .val (.int (2 : Int32)), .val (.int su), .val (.int rr), .val (.int cp), .val (.ref b3), .unset] [(.int (24 : Int32)), (.long q5), (.int (3 : Int32)), (.ref b3)]))
    refine own_Fin.step (fun _ => XS.lushr X10.here hx rfl (hb hby at_150) rfl) ?_
    show own_Fin p e below s _ _ _ (T10.setTop (mkF m 151 #[.val (.int p1), .val (.int p2), .val (.int p3), .val (.int p4), .val (.long q5), .second, .val (.int (2 : Int32)), .val (.int su), .val (.int rr), .val (.int cp), .val (.ref b3), .unset] [(.long ((q5.toUInt64 >>> ((24 : Int32) &&& 0x3f).toInt64.toUInt64).toInt64)), (.int (3 : Int32)), (.ref b3)]))
    refine own_Fin.step (fun _ => XS.l2i X10.here hx rfl (hb hby at_151) rfl) ?_
    show own_Fin p e below s _ _ _ (T10.setTop (mkF m 152 #[.val (.int p1), .val (.int p2), .val (.int p3), .val (.int p4), .val (.long q5), .second, .val (.int (2 : Int32)), .val (.int su), .val (.int rr), .val (.int cp), .val (.ref b3), .unset] [(.int (((q5.toUInt64 >>> ((24 : Int32) &&& 0x3f).toInt64.toUInt64).toInt64).toInt32)), (.int (3 : Int32)), (.ref b3)]))
    refine own_Fin.step (fun _ => XS.i2b X10.here hx rfl (hb hby at_152) rfl) ?_
    show own_Fin p e below s _ _ _ (T10.setTop (mkF m 153 #[.val (.int p1), .val (.int p2), .val (.int p3), .val (.int p4), .val (.long q5), .second, .val (.int (2 : Int32)), .val (.int su), .val (.int rr), .val (.int cp), .val (.ref b3), .unset] [(.int ((((q5.toUInt64 >>> ((24 : Int32) &&& 0x3f).toInt64.toUInt64).toInt64).toInt32).toInt8.toInt32)), (.int (3 : Int32)), (.ref b3)]))
    obtain ⟨T12, h12, X12, e12, V12, W12, st12⟩ := own_stFB X10 hx hZ e10 V10 (j := (3 : Int32)) ⟨by decide, by decide⟩ (g := (mkF m 153 #[.val (.int p1), .val (.int p2), .val (.int p3), .val (.int p4), .val (.long q5), .second, .val (.int (2 : Int32)), .val (.int su), .val (.int rr), .val (.int cp), .val (.ref b3), .unset] [(.int ((((q5.toUInt64 >>> ((24 : Int32) &&& 0x3f).toInt64.toUInt64).toInt64).toInt32).toInt8.toInt32)), (.int (3 : Int32)), (.ref b3)])) rfl rfl (hb hby at_153)
    have N12 := Fr.snoc X12 N10 ge4
    have Z12 : n0 ≤ h12.size := Nat.le_trans Z10 (Nat.le_of_eq W12.size.symm)
    refine own_Fin.step st12 ?_
    show own_Fin p e below s _ _ _ (T12.setTop (mkF m 154 #[.val (.int p1), .val (.int p2), .val (.int p3), .val (.int p4), .val (.long q5), .second, .val (.int (2 : Int32)), .val (.int su), .val (.int rr), .val (.int cp), .val (.ref b3), .unset] []))
    refine own_Fin.step (fun _ => XS.aload X12.here hx rfl (hb hby at_154) rfl rfl) ?_
    show own_Fin p e below s _ _ _ (T12.setTop (mkF m 156 #[.val (.int p1), .val (.int p2), .val (.int p3), .val (.int p4), .val (.long q5), .second, .val (.int (2 : Int32)), .val (.int su), .val (.int rr), .val (.int cp), .val (.ref b3), .unset] [(.ref b3)]))
    refine own_Fin.step (fun _ => XS.iconst X12.here hx rfl (hb hby at_156)) ?_
    show own_Fin p e below s _ _ _ (T12.setTop (mkF m 157 #[.val (.int p1), .val (.int p2), .val (.int p3), .val (.int p4), .val (.long q5), .second, .val (.int (2 : Int32)), .val (.int su), .val (.int rr), .val (.int cp), .val (.ref b3), .unset] [(.int (4 : Int32)), (.ref b3)]))
    refine own_Fin.step (fun _ => XS.lload X12.here hx rfl (hb hby at_157) rfl) ?_
    show own_Fin p e below s _ _ _ (T12.setTop (mkF m 159 #[.val (.int p1), .val (.int p2), .val (.int p3), .val (.int p4), .val (.long q5), .second, .val (.int (2 : Int32)), .val (.int su), .val (.int rr), .val (.int cp), .val (.ref b3), .unset] [(.long q5), (.int (4 : Int32)), (.ref b3)]))
    refine own_Fin.step (fun _ => XS.bipush X12.here hx rfl (hb hby at_159)) ?_
    show own_Fin p e below s _ _ _ (T12.setTop (mkF m 161 #[.val (.int p1), .val (.int p2), .val (.int p3), .val (.int p4), .val (.long q5), .second, .val (.int (2 : Int32)), .val (.int su), .val (.int rr), .val (.int cp), .val (.ref b3), .unset] [(.int (32 : Int32)), (.long q5), (.int (4 : Int32)), (.ref b3)]))
    refine own_Fin.step (fun _ => XS.lushr X12.here hx rfl (hb hby at_161) rfl) ?_
    show own_Fin p e below s _ _ _ (T12.setTop (mkF m 162 #[.val (.int p1), .val (.int p2), .val (.int p3), .val (.int p4), .val (.long q5), .second, .val (.int (2 : Int32)), .val (.int su), .val (.int rr), .val (.int cp), .val (.ref b3), .unset] [(.long ((q5.toUInt64 >>> ((32 : Int32) &&& 0x3f).toInt64.toUInt64).toInt64)), (.int (4 : Int32)), (.ref b3)]))
    refine own_Fin.step (fun _ => XS.l2i X12.here hx rfl (hb hby at_162) rfl) ?_
    show own_Fin p e below s _ _ _ (T12.setTop (mkF m 163 #[.val (.int p1), .val (.int p2), .val (.int p3), .val (.int p4), .val (.long q5), .second, .val (.int (2 : Int32)), .val (.int su), .val (.int rr), .val (.int cp), .val (.ref b3), .unset] [(.int (((q5.toUInt64 >>> ((32 : Int32) &&& 0x3f).toInt64.toUInt64).toInt64).toInt32)), (.int (4 : Int32)), (.ref b3)]))
    refine own_Fin.step (fun _ => XS.i2b X12.here hx rfl (hb hby at_163) rfl) ?_
    show own_Fin p e below s _ _ _ (T12.setTop (mkF m 164 #[.val (.int p1), .val (.int p2), .val (.int p3), .val (.int p4), .val (.long q5), .second, .val (.int (2 : Int32)), .val (.int su), .val (.int rr), .val (.int cp), .val (.ref b3), .unset] [(.int ((((q5.toUInt64 >>> ((32 : Int32) &&& 0x3f).toInt64.toUInt64).toInt64).toInt32).toInt8.toInt32)), (.int (4 : Int32)), (.ref b3)]))
    obtain ⟨T14, h14, X14, e14, V14, W14, st14⟩ := own_stFB X12 hx hZ e12 V12 (j := (4 : Int32)) ⟨by decide, by decide⟩ (g := (mkF m 164 #[.val (.int p1), .val (.int p2), .val (.int p3), .val (.int p4), .val (.long q5), .second, .val (.int (2 : Int32)), .val (.int su), .val (.int rr), .val (.int cp), .val (.ref b3), .unset] [(.int ((((q5.toUInt64 >>> ((32 : Int32) &&& 0x3f).toInt64.toUInt64).toInt64).toInt32).toInt8.toInt32)), (.int (4 : Int32)), (.ref b3)])) rfl rfl (hb hby at_164)
    have N14 := Fr.snoc X14 N12 ge4
    have Z14 : n0 ≤ h14.size := Nat.le_trans Z12 (Nat.le_of_eq W14.size.symm)
    refine own_Fin.step st14 ?_
    show own_Fin p e below s _ _ _ (T14.setTop (mkF m 165 #[.val (.int p1), .val (.int p2), .val (.int p3), .val (.int p4), .val (.long q5), .second, .val (.int (2 : Int32)), .val (.int su), .val (.int rr), .val (.int cp), .val (.ref b3), .unset] []))
    refine own_Fin.step (fun _ => XS.aload X14.here hx rfl (hb hby at_165) rfl rfl) ?_
    show own_Fin p e below s _ _ _ (T14.setTop (mkF m 167 #[.val (.int p1), .val (.int p2), .val (.int p3), .val (.int p4), .val (.long q5), .second, .val (.int (2 : Int32)), .val (.int su), .val (.int rr), .val (.int cp), .val (.ref b3), .unset] [(.ref b3)]))
    refine own_Fin.step (fun _ => XS.iconst X14.here hx rfl (hb hby at_167)) ?_
    show own_Fin p e below s _ _ _ (T14.setTop (mkF m 168 #[.val (.int p1), .val (.int p2), .val (.int p3), .val (.int p4), .val (.long q5), .second, .val (.int (2 : Int32)), .val (.int su), .val (.int rr), .val (.int cp), .val (.ref b3), .unset] [(.int (5 : Int32)), (.ref b3)]))
    refine own_Fin.step (fun _ => XS.lload X14.here hx rfl (hb hby at_168) rfl) ?_
    show own_Fin p e below s _ _ _ (T14.setTop (mkF m 170 #[.val (.int p1), .val (.int p2), .val (.int p3), .val (.int p4), .val (.long q5), .second, .val (.int (2 : Int32)), .val (.int su), .val (.int rr), .val (.int cp), .val (.ref b3), .unset] [(.long q5), (.int (5 : Int32)), (.ref b3)]))
    refine own_Fin.step (fun _ => XS.bipush X14.here hx rfl (hb hby at_170)) ?_
    show own_Fin p e below s _ _ _ (T14.setTop (mkF m 172 #[.val (.int p1), .val (.int p2), .val (.int p3), .val (.int p4), .val (.long q5), .second, .val (.int (2 : Int32)), .val (.int su), .val (.int rr), .val (.int cp), .val (.ref b3), .unset] [(.int (40 : Int32)), (.long q5), (.int (5 : Int32)), (.ref b3)]))
    refine own_Fin.step (fun _ => XS.lushr X14.here hx rfl (hb hby at_172) rfl) ?_
    show own_Fin p e below s _ _ _ (T14.setTop (mkF m 173 #[.val (.int p1), .val (.int p2), .val (.int p3), .val (.int p4), .val (.long q5), .second, .val (.int (2 : Int32)), .val (.int su), .val (.int rr), .val (.int cp), .val (.ref b3), .unset] [(.long ((q5.toUInt64 >>> ((40 : Int32) &&& 0x3f).toInt64.toUInt64).toInt64)), (.int (5 : Int32)), (.ref b3)]))
    refine own_Fin.step (fun _ => XS.l2i X14.here hx rfl (hb hby at_173) rfl) ?_
    show own_Fin p e below s _ _ _ (T14.setTop (mkF m 174 #[.val (.int p1), .val (.int p2), .val (.int p3), .val (.int p4), .val (.long q5), .second, .val (.int (2 : Int32)), .val (.int su), .val (.int rr), .val (.int cp), .val (.ref b3), .unset] [(.int (((q5.toUInt64 >>> ((40 : Int32) &&& 0x3f).toInt64.toUInt64).toInt64).toInt32)), (.int (5 : Int32)), (.ref b3)]))
    refine own_Fin.step (fun _ => XS.i2b X14.here hx rfl (hb hby at_174) rfl) ?_
    show own_Fin p e below s _ _ _ (T14.setTop (mkF m 175 #[.val (.int p1), .val (.int p2), .val (.int p3), .val (.int p4), .val (.long q5), .second, .val (.int (2 : Int32)), .val (.int su), .val (.int rr), .val (.int cp), .val (.ref b3), .unset] [(.int ((((q5.toUInt64 >>> ((40 : Int32) &&& 0x3f).toInt64.toUInt64).toInt64).toInt32).toInt8.toInt32)), (.int (5 : Int32)), (.ref b3)]))
    obtain ⟨T16, h16, X16, e16, V16, W16, st16⟩ := own_stFB X14 hx hZ e14 V14 (j := (5 : Int32)) ⟨by decide, by decide⟩ (g := (mkF m 175 #[.val (.int p1), .val (.int p2), .val (.int p3), .val (.int p4), .val (.long q5), .second, .val (.int (2 : Int32)), .val (.int su), .val (.int rr), .val (.int cp), .val (.ref b3), .unset] [(.int ((((q5.toUInt64 >>> ((40 : Int32) &&& 0x3f).toInt64.toUInt64).toInt64).toInt32).toInt8.toInt32)), (.int (5 : Int32)), (.ref b3)])) rfl rfl (hb hby at_175)
    have N16 := Fr.snoc X16 N14 ge4
    have Z16 : n0 ≤ h16.size := Nat.le_trans Z14 (Nat.le_of_eq W16.size.symm)
    refine own_Fin.step st16 ?_
    show own_Fin p e below s _ _ _ (T16.setTop (mkF m 176 #[.val (.int p1), .val (.int p2), .val (.int p3), .val (.int p4), .val (.long q5), .second, .val (.int (2 : Int32)), .val (.int su), .val (.int rr), .val (.int cp), .val (.ref b3), .unset] []))
    refine own_Fin.step (fun _ => XS.iloadN X16.here hx rfl (hb hby at_176) rfl) ?_
    show own_Fin p e below s _ _ _ (T16.setTop (mkF m 177 #[.val (.int p1), .val (.int p2), .val (.int p3), .val (.int p4), .val (.long q5), .second, .val (.int (2 : Int32)), .val (.int su), .val (.int rr), .val (.int cp), .val (.ref b3), .unset] [(.int p4)]))
    refine own_Fin.step (X16.ldcInt hx hown (mvT hZ (own_w hw 0 rfl)) (g := (mkF m 177 #[.val (.int p1), .val (.int p2), .val (.int p3), .val (.int p4), .val (.long q5), .second, .val (.int (2 : Int32)), .val (.int su), .val (.int rr), .val (.int cp), .val (.ref b3), .unset] [(.int p4)])) rfl (hb hby at_177)) ?_
    show own_Fin p e below s _ _ _ (T16.setTop (mkF m 179 #[.val (.int p1), .val (.int p2), .val (.int p3), .val (.int p4), .val (.long q5), .second, .val (.int (2 : Int32)), .val (.int su), .val (.int rr), .val (.int cp), .val (.ref b3), .unset] [(.int (2147483647 : Int32)), (.int p4)]))
    refine own_Fin.step (fun _ => XS.iand X16.here hx rfl (hb hby at_179) rfl) ?_
    show own_Fin p e below s _ _ _ (T16.setTop (mkF m 180 #[.val (.int p1), .val (.int p2), .val (.int p3), .val (.int p4), .val (.long q5), .second, .val (.int (2 : Int32)), .val (.int su), .val (.int rr), .val (.int cp), .val (.ref b3), .unset] [(.int (p4 &&& (2147483647 : Int32)))]))
    refine own_Fin.step (fun _ => XS.bipush X16.here hx rfl (hb hby at_180)) ?_
    show own_Fin p e below s _ _ _ (T16.setTop (mkF m 182 #[.val (.int p1), .val (.int p2), .val (.int p3), .val (.int p4), .val (.long q5), .second, .val (.int (2 : Int32)), .val (.int su), .val (.int rr), .val (.int cp), .val (.ref b3), .unset] [(.int (7 : Int32)), (.int (p4 &&& (2147483647 : Int32)))]))
    refine own_Fin.step (fun _ => XS.iload X16.here hx rfl (hb hby at_182) rfl) ?_
    show own_Fin p e below s _ _ _ (T16.setTop (mkF m 184 #[.val (.int p1), .val (.int p2), .val (.int p3), .val (.int p4), .val (.long q5), .second, .val (.int (2 : Int32)), .val (.int su), .val (.int rr), .val (.int cp), .val (.ref b3), .unset] [(.int (2 : Int32)), (.int (7 : Int32)), (.int (p4 &&& (2147483647 : Int32)))]))
    refine own_Fin.step (fun _ => XS.isub X16.here hx rfl (hb hby at_184) rfl) ?_
    show own_Fin p e below s _ _ _ (T16.setTop (mkF m 185 #[.val (.int p1), .val (.int p2), .val (.int p3), .val (.int p4), .val (.long q5), .second, .val (.int (2 : Int32)), .val (.int su), .val (.int rr), .val (.int cp), .val (.ref b3), .unset] [(.int (5 : Int32)), (.int (p4 &&& (2147483647 : Int32)))]))
    refine own_Fin.step (fun _ => Jvm.RoadKit.iremM X16 hx rfl (hb hby at_185) rfl (by decide)) ?_
    show own_Fin p e below s _ _ _ (T16.setTop (mkF m 186 #[.val (.int p1), .val (.int p2), .val (.int p3), .val (.int p4), .val (.long q5), .second, .val (.int (2 : Int32)), .val (.int su), .val (.int rr), .val (.int cp), .val (.ref b3), .unset] [(.int ((p4 &&& (2147483647 : Int32)) % (5 : Int32)))]))
    generalize ht0 : ((p4 &&& (2147483647 : Int32)) % (5 : Int32)) = t
    have ht : 0 ≤ t.toInt ∧ t.toInt < 5 := ht0 ▸ own_rem (d := 5) (by decide) (own_nn p4) (by decide)
    have nx1 := (own_ix (t := t) (i := 1) (iv := 1) (by decide) ht (by decide) (by decide)).2
    refine own_Fin.step (fun _ => XS.istore X16.here hx rfl (hb hby at_186) rfl (l' := #[.val (.int p1), .val (.int p2), .val (.int p3), .val (.int p4), .val (.long q5), .second, .val (.int (2 : Int32)), .val (.int su), .val (.int rr), .val (.int cp), .val (.ref b3), .val (.int t)]) rfl) ?_
    show own_Fin p e below s _ _ _ (T16.setTop (mkF m 188 #[.val (.int p1), .val (.int p2), .val (.int p3), .val (.int p4), .val (.long q5), .second, .val (.int (2 : Int32)), .val (.int su), .val (.int rr), .val (.int cp), .val (.ref b3), .val (.int t)] []))
    refine own_Fin.step (fun _ => XS.iload X16.here hx rfl (hb hby at_188) rfl) ?_
    show own_Fin p e below s _ _ _ (T16.setTop (mkF m 190 #[.val (.int p1), .val (.int p2), .val (.int p3), .val (.int p4), .val (.long q5), .second, .val (.int (2 : Int32)), .val (.int su), .val (.int rr), .val (.int cp), .val (.ref b3), .val (.int t)] [(.int (2 : Int32))]))
    refine own_Fin.step (fun _ => XS.iconst X16.here hx rfl (hb hby at_190)) ?_
    show own_Fin p e below s _ _ _ (T16.setTop (mkF m 191 #[.val (.int p1), .val (.int p2), .val (.int p3), .val (.int p4), .val (.long q5), .second, .val (.int (2 : Int32)), .val (.int su), .val (.int rr), .val (.int cp), .val (.ref b3), .val (.int t)] [(.int (2 : Int32)), (.int (2 : Int32))]))
    refine own_Fin.step (fun _ => XS.icmpNo X16.here hx rfl (hb hby at_191) rfl (XT.ii_ne_f (by decide : (2 : Int32) = (2 : Int32)))) ?_
    show own_Fin p e below s _ _ _ (T16.setTop (mkF m 194 #[.val (.int p1), .val (.int p2), .val (.int p3), .val (.int p4), .val (.long q5), .second, .val (.int (2 : Int32)), .val (.int su), .val (.int rr), .val (.int cp), .val (.ref b3), .val (.int t)] []))
    refine own_Fin.step (fun _ => XS.aload X16.here hx rfl (hb hby at_194) rfl rfl) ?_
    show own_Fin p e below s _ _ _ (T16.setTop (mkF m 196 #[.val (.int p1), .val (.int p2), .val (.int p3), .val (.int p4), .val (.long q5), .second, .val (.int (2 : Int32)), .val (.int su), .val (.int rr), .val (.int cp), .val (.ref b3), .val (.int t)] [(.ref b3)]))
    refine own_Fin.step (fun _ => XS.iload X16.here hx rfl (hb hby at_196) rfl) ?_
    show own_Fin p e below s _ _ _ (T16.setTop (mkF m 198 #[.val (.int p1), .val (.int p2), .val (.int p3), .val (.int p4), .val (.long q5), .second, .val (.int (2 : Int32)), .val (.int su), .val (.int rr), .val (.int cp), .val (.ref b3), .val (.int t)] [(.int t), (.ref b3)]))
    refine own_Fin.step (fun _ => XS.sipush X16.here hx rfl (hb hby at_198)) ?_
    show own_Fin p e below s _ _ _ (T16.setTop (mkF m 201 #[.val (.int p1), .val (.int p2), .val (.int p3), .val (.int p4), .val (.long q5), .second, .val (.int (2 : Int32)), .val (.int su), .val (.int rr), .val (.int cp), .val (.ref b3), .val (.int t)] [(.int (192 : Int32)), (.int t), (.ref b3)]))
    refine own_Fin.step (fun _ => XS.iload X16.here hx rfl (hb hby at_201) rfl) ?_
    show own_Fin p e below s _ _ _ (T16.setTop (mkF m 203 #[.val (.int p1), .val (.int p2), .val (.int p3), .val (.int p4), .val (.long q5), .second, .val (.int (2 : Int32)), .val (.int su), .val (.int rr), .val (.int cp), .val (.ref b3), .val (.int t)] [(.int cp), (.int (192 : Int32)), (.int t), (.ref b3)]))
    refine own_Fin.step (fun _ => XS.bipush X16.here hx rfl (hb hby at_203)) ?_
    show own_Fin p e below s _ _ _ (T16.setTop (mkF m 205 #[.val (.int p1), .val (.int p2), .val (.int p3), .val (.int p4), .val (.long q5), .second, .val (.int (2 : Int32)), .val (.int su), .val (.int rr), .val (.int cp), .val (.ref b3), .val (.int t)] [(.int (6 : Int32)), (.int cp), (.int (192 : Int32)), (.int t), (.ref b3)]))
    refine own_Fin.step (fun _ => XS.iushr X16.here hx rfl (hb hby at_205) rfl) ?_
    show own_Fin p e below s _ _ _ (T16.setTop (mkF m 206 #[.val (.int p1), .val (.int p2), .val (.int p3), .val (.int p4), .val (.long q5), .second, .val (.int (2 : Int32)), .val (.int su), .val (.int rr), .val (.int cp), .val (.ref b3), .val (.int t)] [(.int ((cp.toUInt32 >>> ((6 : Int32) &&& 31).toUInt32).toInt32)), (.int (192 : Int32)), (.int t), (.ref b3)]))
    refine own_Fin.step (fun _ => XS.ior X16.here hx rfl (hb hby at_206) rfl) ?_
    show own_Fin p e below s _ _ _ (T16.setTop (mkF m 207 #[.val (.int p1), .val (.int p2), .val (.int p3), .val (.int p4), .val (.long q5), .second, .val (.int (2 : Int32)), .val (.int su), .val (.int rr), .val (.int cp), .val (.ref b3), .val (.int t)] [(.int ((192 : Int32) ||| ((cp.toUInt32 >>> ((6 : Int32) &&& 31).toUInt32).toInt32))), (.int t), (.ref b3)]))
    refine own_Fin.step (fun _ => XS.i2b X16.here hx rfl (hb hby at_207) rfl) ?_
    show own_Fin p e below s _ _ _ (T16.setTop (mkF m 208 #[.val (.int p1), .val (.int p2), .val (.int p3), .val (.int p4), .val (.long q5), .second, .val (.int (2 : Int32)), .val (.int su), .val (.int rr), .val (.int cp), .val (.ref b3), .val (.int t)] [(.int (((192 : Int32) ||| ((cp.toUInt32 >>> ((6 : Int32) &&& 31).toUInt32).toInt32)).toInt8.toInt32)), (.int t), (.ref b3)]))
    obtain ⟨T18, h18, X18, e18, V18, W18, st18⟩ := own_stFB X16 hx hZ e16 V16 (j := t) (own_ix0 ht (by decide)) (g := (mkF m 208 #[.val (.int p1), .val (.int p2), .val (.int p3), .val (.int p4), .val (.long q5), .second, .val (.int (2 : Int32)), .val (.int su), .val (.int rr), .val (.int cp), .val (.ref b3), .val (.int t)] [(.int (((192 : Int32) ||| ((cp.toUInt32 >>> ((6 : Int32) &&& 31).toUInt32).toInt32)).toInt8.toInt32)), (.int t), (.ref b3)])) rfl rfl (hb hby at_208)
    have N18 := Fr.snoc X18 N16 ge4
    have Z18 : n0 ≤ h18.size := Nat.le_trans Z16 (Nat.le_of_eq W18.size.symm)
    refine own_Fin.step st18 ?_
    show own_Fin p e below s _ _ _ (T18.setTop (mkF m 209 #[.val (.int p1), .val (.int p2), .val (.int p3), .val (.int p4), .val (.long q5), .second, .val (.int (2 : Int32)), .val (.int su), .val (.int rr), .val (.int cp), .val (.ref b3), .val (.int t)] []))
    refine own_Fin.step (fun _ => XS.aload X18.here hx rfl (hb hby at_209) rfl rfl) ?_
    show own_Fin p e below s _ _ _ (T18.setTop (mkF m 211 #[.val (.int p1), .val (.int p2), .val (.int p3), .val (.int p4), .val (.long q5), .second, .val (.int (2 : Int32)), .val (.int su), .val (.int rr), .val (.int cp), .val (.ref b3), .val (.int t)] [(.ref b3)]))
    refine own_Fin.step (fun _ => XS.iload X18.here hx rfl (hb hby at_211) rfl) ?_
    show own_Fin p e below s _ _ _ (T18.setTop (mkF m 213 #[.val (.int p1), .val (.int p2), .val (.int p3), .val (.int p4), .val (.long q5), .second, .val (.int (2 : Int32)), .val (.int su), .val (.int rr), .val (.int cp), .val (.ref b3), .val (.int t)] [(.int t), (.ref b3)]))
    refine own_Fin.step (fun _ => XS.iconst X18.here hx rfl (hb hby at_213)) ?_
    show own_Fin p e below s _ _ _ (T18.setTop (mkF m 214 #[.val (.int p1), .val (.int p2), .val (.int p3), .val (.int p4), .val (.long q5), .second, .val (.int (2 : Int32)), .val (.int su), .val (.int rr), .val (.int cp), .val (.ref b3), .val (.int t)] [(.int (1 : Int32)), (.int t), (.ref b3)]))
    refine own_Fin.step (fun _ => XS.iadd X18.here hx rfl (hb hby at_214) rfl) ?_
    show own_Fin p e below s _ _ _ (T18.setTop (mkF m 215 #[.val (.int p1), .val (.int p2), .val (.int p3), .val (.int p4), .val (.long q5), .second, .val (.int (2 : Int32)), .val (.int su), .val (.int rr), .val (.int cp), .val (.ref b3), .val (.int t)] [(.int (t + (1 : Int32))), (.ref b3)]))
    refine own_Fin.step (fun _ => XS.sipush X18.here hx rfl (hb hby at_215)) ?_
    show own_Fin p e below s _ _ _ (T18.setTop (mkF m 218 #[.val (.int p1), .val (.int p2), .val (.int p3), .val (.int p4), .val (.long q5), .second, .val (.int (2 : Int32)), .val (.int su), .val (.int rr), .val (.int cp), .val (.ref b3), .val (.int t)] [(.int (128 : Int32)), (.int (t + (1 : Int32))), (.ref b3)]))
    refine own_Fin.step (fun _ => XS.iload X18.here hx rfl (hb hby at_218) rfl) ?_
    show own_Fin p e below s _ _ _ (T18.setTop (mkF m 220 #[.val (.int p1), .val (.int p2), .val (.int p3), .val (.int p4), .val (.long q5), .second, .val (.int (2 : Int32)), .val (.int su), .val (.int rr), .val (.int cp), .val (.ref b3), .val (.int t)] [(.int cp), (.int (128 : Int32)), (.int (t + (1 : Int32))), (.ref b3)]))
    refine own_Fin.step (fun _ => XS.bipush X18.here hx rfl (hb hby at_220)) ?_
    show own_Fin p e below s _ _ _ (T18.setTop (mkF m 222 #[.val (.int p1), .val (.int p2), .val (.int p3), .val (.int p4), .val (.long q5), .second, .val (.int (2 : Int32)), .val (.int su), .val (.int rr), .val (.int cp), .val (.ref b3), .val (.int t)] [(.int (63 : Int32)), (.int cp), (.int (128 : Int32)), (.int (t + (1 : Int32))), (.ref b3)]))
    refine own_Fin.step (fun _ => XS.iand X18.here hx rfl (hb hby at_222) rfl) ?_
    show own_Fin p e below s _ _ _ (T18.setTop (mkF m 223 #[.val (.int p1), .val (.int p2), .val (.int p3), .val (.int p4), .val (.long q5), .second, .val (.int (2 : Int32)), .val (.int su), .val (.int rr), .val (.int cp), .val (.ref b3), .val (.int t)] [(.int (cp &&& (63 : Int32))), (.int (128 : Int32)), (.int (t + (1 : Int32))), (.ref b3)]))
    refine own_Fin.step (fun _ => XS.ior X18.here hx rfl (hb hby at_223) rfl) ?_
    show own_Fin p e below s _ _ _ (T18.setTop (mkF m 224 #[.val (.int p1), .val (.int p2), .val (.int p3), .val (.int p4), .val (.long q5), .second, .val (.int (2 : Int32)), .val (.int su), .val (.int rr), .val (.int cp), .val (.ref b3), .val (.int t)] [(.int ((128 : Int32) ||| (cp &&& (63 : Int32)))), (.int (t + (1 : Int32))), (.ref b3)]))
    refine own_Fin.step (fun _ => XS.i2b X18.here hx rfl (hb hby at_224) rfl) ?_
    show own_Fin p e below s _ _ _ (T18.setTop (mkF m 225 #[.val (.int p1), .val (.int p2), .val (.int p3), .val (.int p4), .val (.long q5), .second, .val (.int (2 : Int32)), .val (.int su), .val (.int rr), .val (.int cp), .val (.ref b3), .val (.int t)] [(.int (((128 : Int32) ||| (cp &&& (63 : Int32))).toInt8.toInt32)), (.int (t + (1 : Int32))), (.ref b3)]))
    obtain ⟨T20, h20, X20, e20, V20, W20, st20⟩ := own_stFB X18 hx hZ e18 V18 (j := (t + (1 : Int32))) (own_ix (i := 1) (iv := 1) (by decide) ht (by decide) (by decide)).1 (g := (mkF m 225 #[.val (.int p1), .val (.int p2), .val (.int p3), .val (.int p4), .val (.long q5), .second, .val (.int (2 : Int32)), .val (.int su), .val (.int rr), .val (.int cp), .val (.ref b3), .val (.int t)] [(.int (((128 : Int32) ||| (cp &&& (63 : Int32))).toInt8.toInt32)), (.int (t + (1 : Int32))), (.ref b3)])) rfl rfl (hb hby at_225)
    have N20 := Fr.snoc X20 N18 ge4
    have Z20 : n0 ≤ h20.size := Nat.le_trans Z18 (Nat.le_of_eq W20.size.symm)
    refine own_Fin.step st20 ?_
    show own_Fin p e below s _ _ _ (T20.setTop (mkF m 226 #[.val (.int p1), .val (.int p2), .val (.int p3), .val (.int p4), .val (.long q5), .second, .val (.int (2 : Int32)), .val (.int su), .val (.int rr), .val (.int cp), .val (.ref b3), .val (.int t)] []))
    refine own_Fin.step (fun _ => XS.goto X20.here hx rfl (pc0 := 226) (pc' := 362) rfl (hb hby at_226) (by decide) (by decide)) ?_
    show own_Fin p e below s _ _ _ (T20.setTop (mkF m 362 #[.val (.int p1), .val (.int p2), .val (.int p3), .val (.int p4), .val (.long q5), .second, .val (.int (2 : Int32)), .val (.int su), .val (.int rr), .val (.int cp), .val (.ref b3), .val (.int t)] []))
    refine own_Fin.step (fun _ => XS.aload X20.here hx rfl (hb hby at_362) rfl rfl) ?_
    show own_Fin p e below s _ _ _ (T20.setTop (mkF m 364 #[.val (.int p1), .val (.int p2), .val (.int p3), .val (.int p4), .val (.long q5), .second, .val (.int (2 : Int32)), .val (.int su), .val (.int rr), .val (.int cp), .val (.ref b3), .val (.int t)] [(.ref b3)]))
    refine own_Fin.step (fun _ => XS.iload X20.here hx rfl (hb hby at_364) rfl) ?_
    show own_Fin p e below s _ _ _ (T20.setTop (mkF m 366 #[.val (.int p1), .val (.int p2), .val (.int p3), .val (.int p4), .val (.long q5), .second, .val (.int (2 : Int32)), .val (.int su), .val (.int rr), .val (.int cp), .val (.ref b3), .val (.int t)] [(.int t), (.ref b3)]))
    refine own_Fin.step (fun _ => XS.iload X20.here hx rfl (hb hby at_366) rfl) ?_
    show own_Fin p e below s _ _ _ (T20.setTop (mkF m 368 #[.val (.int p1), .val (.int p2), .val (.int p3), .val (.int p4), .val (.long q5), .second, .val (.int (2 : Int32)), .val (.int su), .val (.int rr), .val (.int cp), .val (.ref b3), .val (.int t)] [(.int (2 : Int32)), (.int t), (.ref b3)]))
    refine own_Fin.step (fun _ => XS.iload X20.here hx rfl (hb hby at_368) rfl) ?_
    show own_Fin p e below s _ _ _ (T20.setTop (mkF m 370 #[.val (.int p1), .val (.int p2), .val (.int p3), .val (.int p4), .val (.long q5), .second, .val (.int (2 : Int32)), .val (.int su), .val (.int rr), .val (.int cp), .val (.ref b3), .val (.int t)] [(.int su), (.int (2 : Int32)), (.int t), (.ref b3)]))
    obtain ⟨_, T22, L22, X22, ⟨rfl, N22q, e22⟩, st22⟩ := own_callS X20 hx hZ hown (own_w hw 2 rfl) (own_w hw 3 rfl) (own_w hw 4 rfl) (own_w hw 5 rfl) (by decide) (rm3a l Z a0 hw b3 t su k3 (own_upd (own_upd (own_upd (own_upd (own_upd (own_upd (own_upd (own_upd (fun _ => (0 : Int32)) ((0 : Int32)).toNatClampNeg (nar .byte ((q5.toInt32).toInt8.toInt32))) ((1 : Int32)).toNatClampNeg (nar .byte ((((q5.toUInt64 >>> ((8 : Int32) &&& 0x3f).toInt64.toUInt64).toInt64).toInt32).toInt8.toInt32))) ((2 : Int32)).toNatClampNeg (nar .byte ((((q5.toUInt64 >>> ((16 : Int32) &&& 0x3f).toInt64.toUInt64).toInt64).toInt32).toInt8.toInt32))) ((3 : Int32)).toNatClampNeg (nar .byte ((((q5.toUInt64 >>> ((24 : Int32) &&& 0x3f).toInt64.toUInt64).toInt64).toInt32).toInt8.toInt32))) ((4 : Int32)).toNatClampNeg (nar .byte ((((q5.toUInt64 >>> ((32 : Int32) &&& 0x3f).toInt64.toUInt64).toInt64).toInt32).toInt8.toInt32))) ((5 : Int32)).toNatClampNeg (nar .byte ((((q5.toUInt64 >>> ((40 : Int32) &&& 0x3f).toInt64.toUInt64).toInt64).toInt32).toInt8.toInt32))) (t).toNatClampNeg (nar .byte (((192 : Int32) ||| ((cp.toUInt32 >>> ((6 : Int32) &&& 31).toUInt32).toInt32)).toInt8.toInt32))) ((t + (1 : Int32))).toNatClampNeg (nar .byte (((128 : Int32) ||| (cp &&& (63 : Int32))).toInt8.toInt32))) (nar .byte (((192 : Int32) ||| ((cp.toUInt32 >>> ((6 : Int32) &&& 31).toUInt32).toInt32)).toInt8.toInt32)) (nar .byte (((128 : Int32) ||| (cp &&& (63 : Int32))).toInt8.toInt32)) h20 n0 Z20 V20 (own_ix0 ht (by decide)) (own_ix (i := 1) (iv := 1) (by decide) ht (by decide) (by decide)).1 (by simp [own_upd, nx1]) (by simp [own_upd, nx1]) (own_dec2 cp hcp.1 hcp.2).2 ) (by decide) (by decide) e20 (W := 0) (g := (mkF m 370 #[.val (.int p1), .val (.int p2), .val (.int p3), .val (.int p4), .val (.long q5), .second, .val (.int (2 : Int32)), .val (.int su), .val (.int rr), .val (.int cp), .val (.ref b3), .val (.int t)] [(.int su), (.int (2 : Int32)), (.int t), (.ref b3)])) rfl (by rw [hml]; rfl) (argsL := [(.ref b3), (.int t), (.int (2 : Int32)), (.int su)]) (rest := []) (lenOf pd_2 rfl) rfl rfl (by show 2 * 0 + _ ≤ _; exact Nat.le_of_eq rfl) (hb hby at_370) (by decide) (by decide)
    have N22 := Fr.app N20 N22q
    refine own_Fin.step st22 ?_
    show own_Fin p e below s _ _ _ (T22.setTop (mkF m 373 #[.val (.int p1), .val (.int p2), .val (.int p3), .val (.int p4), .val (.long q5), .second, .val (.int (2 : Int32)), .val (.int su), .val (.int rr), .val (.int cp), .val (.ref b3), .val (.int t)] [(.int ((((nar .byte (((192 : Int32) ||| ((cp.toUInt32 >>> ((6 : Int32) &&& 31).toUInt32).toInt32)).toInt8.toInt32)) &&& (31 : Int32)) <<< ((6 : Int32) &&& 31)) ||| ((nar .byte (((128 : Int32) ||| (cp &&& (63 : Int32))).toInt8.toInt32)) &&& (63 : Int32))))]))
    refine own_Fin.step (fun _ => XS.iload X22.here hx rfl (hb hby at_373) rfl) ?_
    show own_Fin p e below s _ _ _ (T22.setTop (mkF m 375 #[.val (.int p1), .val (.int p2), .val (.int p3), .val (.int p4), .val (.long q5), .second, .val (.int (2 : Int32)), .val (.int su), .val (.int rr), .val (.int cp), .val (.ref b3), .val (.int t)] [(.int cp), (.int ((((nar .byte (((192 : Int32) ||| ((cp.toUInt32 >>> ((6 : Int32) &&& 31).toUInt32).toInt32)).toInt8.toInt32)) &&& (31 : Int32)) <<< ((6 : Int32) &&& 31)) ||| ((nar .byte (((128 : Int32) ||| (cp &&& (63 : Int32))).toInt8.toInt32)) &&& (63 : Int32))))]))
    refine own_Fin.step (fun _ => XS.icmpNo X22.here hx rfl (hb hby at_375) rfl (XT.ii_ne_f (own_dec2 cp hcp.1 hcp.2).1)) ?_
    show own_Fin p e below s _ _ _ (T22.setTop (mkF m 378 #[.val (.int p1), .val (.int p2), .val (.int p3), .val (.int p4), .val (.long q5), .second, .val (.int (2 : Int32)), .val (.int su), .val (.int rr), .val (.int cp), .val (.ref b3), .val (.int t)] []))
    refine own_Fin.step (fun _ => XS.iconst X22.here hx rfl (hb hby at_378)) ?_
    show own_Fin p e below s _ _ _ (T22.setTop (mkF m 379 #[.val (.int p1), .val (.int p2), .val (.int p3), .val (.int p4), .val (.long q5), .second, .val (.int (2 : Int32)), .val (.int su), .val (.int rr), .val (.int cp), .val (.ref b3), .val (.int t)] [(.int (1 : Int32))]))
    refine own_Fin.step (fun _ => XS.goto X22.here hx rfl (pc0 := 379) (pc' := 383) rfl (hb hby at_379) (by decide) (by decide)) ?_
    show own_Fin p e below s _ _ _ (T22.setTop (mkF m 383 #[.val (.int p1), .val (.int p2), .val (.int p3), .val (.int p4), .val (.long q5), .second, .val (.int (2 : Int32)), .val (.int su), .val (.int rr), .val (.int cp), .val (.ref b3), .val (.int t)] [(.int (1 : Int32))]))
    exact own_retN X22 hx hlk (t := .boolean) hret (by simp) (hb hby at_383) ⟨rfl, N22⟩ (by decide) (by decide)
  ·
    show own_Fin p e below s _ _ _ (s₁.setTop (mkF m 8 #[.val (.int p1), .val (.int p2), .val (.int p3), .val (.int p4), .val (.long q5), .second, .unset, .unset, .unset, .unset, .unset, .unset] [(.int (3 : Int32))]))
    refine own_Fin.step (fun _ => XS.istore X0.here hx rfl (hb hby at_8) rfl (l' := #[.val (.int p1), .val (.int p2), .val (.int p3), .val (.int p4), .val (.long q5), .second, .val (.int (3 : Int32)), .unset, .unset, .unset, .unset, .unset]) rfl) ?_
    show own_Fin p e below s _ _ _ (s₁.setTop (mkF m 10 #[.val (.int p1), .val (.int p2), .val (.int p3), .val (.int p4), .val (.long q5), .second, .val (.int (3 : Int32)), .unset, .unset, .unset, .unset, .unset] []))
    refine own_Fin.step (fun _ => XS.iloadN X0.here hx rfl (hb hby at_10) rfl) ?_
    show own_Fin p e below s _ _ _ (s₁.setTop (mkF m 11 #[.val (.int p1), .val (.int p2), .val (.int p3), .val (.int p4), .val (.long q5), .second, .val (.int (3 : Int32)), .unset, .unset, .unset, .unset, .unset] [(.int p3)]))
    refine own_Fin.step (fun _ => XS.iconst X0.here hx rfl (hb hby at_11)) ?_
    show own_Fin p e below s _ _ _ (s₁.setTop (mkF m 12 #[.val (.int p1), .val (.int p2), .val (.int p3), .val (.int p4), .val (.long q5), .second, .val (.int (3 : Int32)), .unset, .unset, .unset, .unset, .unset] [(.int (1 : Int32)), (.int p3)]))
    refine own_Fin.step (fun _ => XS.iand X0.here hx rfl (hb hby at_12) rfl) ?_
    show own_Fin p e below s _ _ _ (s₁.setTop (mkF m 13 #[.val (.int p1), .val (.int p2), .val (.int p3), .val (.int p4), .val (.long q5), .second, .val (.int (3 : Int32)), .unset, .unset, .unset, .unset, .unset] [(.int (p3 &&& (1 : Int32)))]))
    have st24 : ∀ t, Steps p.tables e below (s₁.setTop (mkF m 21 #[.val (.int p1), .val (.int p2), .val (.int p3), .val (.int p4), .val (.long q5), .second, .val (.int (3 : Int32)), .unset, .unset, .unset, .unset, .unset] [(.int (if (p3 &&& (1 : Int32)) = (0 : Int32) then (0 : Int32) else (1 : Int32)))])) t → Steps p.tables e below (s₁.setTop (mkF m 13 #[.val (.int p1), .val (.int p2), .val (.int p3), .val (.int p4), .val (.long q5), .second, .val (.int (3 : Int32)), .unset, .unset, .unset, .unset, .unset] [(.int (p3 &&& (1 : Int32)))])) t := by
      intro t kt
      by_cases hc13_23 : (p3 &&& (1 : Int32)) = (0 : Int32)
      · simp only [if_pos hc13_23] at kt
        refine XS.ifYes X0.here hx rfl (pc0 := 13) (pc' := 20) rfl (hb hby at_13) rfl (XT.i0_eq_t hc13_23) (by decide) (by decide) ?_
        show Steps p.tables e below (s₁.setTop (mkF m 20 #[.val (.int p1), .val (.int p2), .val (.int p3), .val (.int p4), .val (.long q5), .second, .val (.int (3 : Int32)), .unset, .unset, .unset, .unset, .unset] [])) _
        refine XS.iconst X0.here hx rfl (hb hby at_20) ?_
        exact kt
      · simp only [if_neg hc13_23] at kt
        refine XS.ifNo X0.here hx rfl (hb hby at_13) rfl (XT.i0_eq_f hc13_23) ?_
        show Steps p.tables e below (s₁.setTop (mkF m 16 #[.val (.int p1), .val (.int p2), .val (.int p3), .val (.int p4), .val (.long q5), .second, .val (.int (3 : Int32)), .unset, .unset, .unset, .unset, .unset] [])) _
        refine XS.iconst X0.here hx rfl (hb hby at_16) ?_
        show Steps p.tables e below (s₁.setTop (mkF m 17 #[.val (.int p1), .val (.int p2), .val (.int p3), .val (.int p4), .val (.long q5), .second, .val (.int (3 : Int32)), .unset, .unset, .unset, .unset, .unset] [(.int (1 : Int32))])) _
        refine XS.goto X0.here hx rfl (pc0 := 17) (pc' := 21) rfl (hb hby at_17) (by decide) (by decide) ?_
        exact kt
    refine own_Fin.step st24 ?_
    show own_Fin p e below s _ _ _ (s₁.setTop (mkF m 21 #[.val (.int p1), .val (.int p2), .val (.int p3), .val (.int p4), .val (.long q5), .second, .val (.int (3 : Int32)), .unset, .unset, .unset, .unset, .unset] [(.int (if (p3 &&& (1 : Int32)) = (0 : Int32) then (0 : Int32) else (1 : Int32)))]))
    generalize hsu : (if (p3 &&& (1 : Int32)) = (0 : Int32) then (0 : Int32) else (1 : Int32)) = su
    refine own_Fin.step (fun _ => XS.istore X0.here hx rfl (hb hby at_21) rfl (l' := #[.val (.int p1), .val (.int p2), .val (.int p3), .val (.int p4), .val (.long q5), .second, .val (.int (3 : Int32)), .val (.int su), .unset, .unset, .unset, .unset]) rfl) ?_
    show own_Fin p e below s _ _ _ (s₁.setTop (mkF m 23 #[.val (.int p1), .val (.int p2), .val (.int p3), .val (.int p4), .val (.long q5), .second, .val (.int (3 : Int32)), .val (.int su), .unset, .unset, .unset, .unset] []))
    refine own_Fin.step (fun _ => XS.iloadN X0.here hx rfl (hb hby at_23) rfl) ?_
    show own_Fin p e below s _ _ _ (s₁.setTop (mkF m 24 #[.val (.int p1), .val (.int p2), .val (.int p3), .val (.int p4), .val (.long q5), .second, .val (.int (3 : Int32)), .val (.int su), .unset, .unset, .unset, .unset] [(.int p1)]))
    refine own_Fin.step (X0.ldcInt hx hown (mvT hZ (own_w hw 0 rfl)) (g := (mkF m 24 #[.val (.int p1), .val (.int p2), .val (.int p3), .val (.int p4), .val (.long q5), .second, .val (.int (3 : Int32)), .val (.int su), .unset, .unset, .unset, .unset] [(.int p1)])) rfl (hb hby at_24)) ?_
    show own_Fin p e below s _ _ _ (s₁.setTop (mkF m 26 #[.val (.int p1), .val (.int p2), .val (.int p3), .val (.int p4), .val (.long q5), .second, .val (.int (3 : Int32)), .val (.int su), .unset, .unset, .unset, .unset] [(.int (2147483647 : Int32)), (.int p1)]))
    refine own_Fin.step (fun _ => XS.iand X0.here hx rfl (hb hby at_26) rfl) ?_
    show own_Fin p e below s _ _ _ (s₁.setTop (mkF m 27 #[.val (.int p1), .val (.int p2), .val (.int p3), .val (.int p4), .val (.long q5), .second, .val (.int (3 : Int32)), .val (.int su), .unset, .unset, .unset, .unset] [(.int (p1 &&& (2147483647 : Int32)))]))
    generalize hrr : (p1 &&& (2147483647 : Int32)) = rr
    have hr : 0 ≤ rr.toInt := hrr ▸ own_nn p1
    refine own_Fin.step (fun _ => XS.istore X0.here hx rfl (hb hby at_27) rfl (l' := #[.val (.int p1), .val (.int p2), .val (.int p3), .val (.int p4), .val (.long q5), .second, .val (.int (3 : Int32)), .val (.int su), .val (.int rr), .unset, .unset, .unset]) rfl) ?_
    show own_Fin p e below s _ _ _ (s₁.setTop (mkF m 29 #[.val (.int p1), .val (.int p2), .val (.int p3), .val (.int p4), .val (.long q5), .second, .val (.int (3 : Int32)), .val (.int su), .val (.int rr), .unset, .unset, .unset] []))
    refine own_Fin.step (fun _ => XS.iload X0.here hx rfl (hb hby at_29) rfl) ?_
    show own_Fin p e below s _ _ _ (s₁.setTop (mkF m 31 #[.val (.int p1), .val (.int p2), .val (.int p3), .val (.int p4), .val (.long q5), .second, .val (.int (3 : Int32)), .val (.int su), .val (.int rr), .unset, .unset, .unset] [(.int (3 : Int32))]))
    refine own_Fin.step (fun _ => XS.iconst X0.here hx rfl (hb hby at_31)) ?_
    show own_Fin p e below s _ _ _ (s₁.setTop (mkF m 32 #[.val (.int p1), .val (.int p2), .val (.int p3), .val (.int p4), .val (.long q5), .second, .val (.int (3 : Int32)), .val (.int su), .val (.int rr), .unset, .unset, .unset] [(.int (2 : Int32)), (.int (3 : Int32))]))
    refine own_Fin.step (fun _ => XS.icmpYes X0.here hx rfl (pc0 := 32) (pc' := 50) rfl (hb hby at_32) rfl (XT.ii_ne_t (by decide : ¬ ((3 : Int32) = (2 : Int32)))) (by decide) (by decide)) ?_
    show own_Fin p e below s _ _ _ (s₁.setTop (mkF m 50 #[.val (.int p1), .val (.int p2), .val (.int p3), .val (.int p4), .val (.long q5), .second, .val (.int (3 : Int32)), .val (.int su), .val (.int rr), .unset, .unset, .unset] []))
    refine own_Fin.step (fun _ => XS.iload X0.here hx rfl (hb hby at_50) rfl) ?_
    show own_Fin p e below s _ _ _ (s₁.setTop (mkF m 52 #[.val (.int p1), .val (.int p2), .val (.int p3), .val (.int p4), .val (.long q5), .second, .val (.int (3 : Int32)), .val (.int su), .val (.int rr), .unset, .unset, .unset] [(.int (3 : Int32))]))
    refine own_Fin.step (fun _ => XS.iconst X0.here hx rfl (hb hby at_52)) ?_
    show own_Fin p e below s _ _ _ (s₁.setTop (mkF m 53 #[.val (.int p1), .val (.int p2), .val (.int p3), .val (.int p4), .val (.long q5), .second, .val (.int (3 : Int32)), .val (.int su), .val (.int rr), .unset, .unset, .unset] [(.int (3 : Int32)), (.int (3 : Int32))]))
    refine own_Fin.step (fun _ => XS.icmpNo X0.here hx rfl (hb hby at_53) rfl (XT.ii_ne_f (by decide : (3 : Int32) = (3 : Int32)))) ?_
    show own_Fin p e below s _ _ _ (s₁.setTop (mkF m 56 #[.val (.int p1), .val (.int p2), .val (.int p3), .val (.int p4), .val (.long q5), .second, .val (.int (3 : Int32)), .val (.int su), .val (.int rr), .unset, .unset, .unset] []))
    refine own_Fin.step (fun _ => XS.sipush X0.here hx rfl (hb hby at_56)) ?_
    show own_Fin p e below s _ _ _ (s₁.setTop (mkF m 59 #[.val (.int p1), .val (.int p2), .val (.int p3), .val (.int p4), .val (.long q5), .second, .val (.int (3 : Int32)), .val (.int su), .val (.int rr), .unset, .unset, .unset] [(.int (2048 : Int32))]))
    refine own_Fin.step (fun _ => XS.iload X0.here hx rfl (hb hby at_59) rfl) ?_
    show own_Fin p e below s _ _ _ (s₁.setTop (mkF m 61 #[.val (.int p1), .val (.int p2), .val (.int p3), .val (.int p4), .val (.long q5), .second, .val (.int (3 : Int32)), .val (.int su), .val (.int rr), .unset, .unset, .unset] [(.int rr), (.int (2048 : Int32))]))
    refine own_Fin.step (X0.ldcInt hx hown (mvT hZ (own_w hw 13 rfl)) (g := (mkF m 61 #[.val (.int p1), .val (.int p2), .val (.int p3), .val (.int p4), .val (.long q5), .second, .val (.int (3 : Int32)), .val (.int su), .val (.int rr), .unset, .unset, .unset] [(.int rr), (.int (2048 : Int32))])) rfl (hb hby at_61)) ?_
    show own_Fin p e below s _ _ _ (s₁.setTop (mkF m 63 #[.val (.int p1), .val (.int p2), .val (.int p3), .val (.int p4), .val (.long q5), .second, .val (.int (3 : Int32)), .val (.int su), .val (.int rr), .unset, .unset, .unset] [(.int (63488 : Int32)), (.int rr), (.int (2048 : Int32))]))
    refine own_Fin.step (fun _ => Jvm.RoadKit.iremM X0 hx rfl (hb hby at_63) rfl (by decide)) ?_
    show own_Fin p e below s _ _ _ (s₁.setTop (mkF m 64 #[.val (.int p1), .val (.int p2), .val (.int p3), .val (.int p4), .val (.long q5), .second, .val (.int (3 : Int32)), .val (.int su), .val (.int rr), .unset, .unset, .unset] [(.int (rr % (63488 : Int32))), (.int (2048 : Int32))]))
    refine own_Fin.step (fun _ => XS.iadd X0.here hx rfl (hb hby at_64) rfl) ?_
    show own_Fin p e below s _ _ _ (s₁.setTop (mkF m 65 #[.val (.int p1), .val (.int p2), .val (.int p3), .val (.int p4), .val (.long q5), .second, .val (.int (3 : Int32)), .val (.int su), .val (.int rr), .unset, .unset, .unset] [(.int ((2048 : Int32) + (rr % (63488 : Int32))))]))
    generalize hcp0 : ((2048 : Int32) + (rr % (63488 : Int32))) = cp
    have hcp : 2048 ≤ cp.toInt ∧ cp.toInt < 65536 := hcp0 ▸ own_off (bv := 2048) (d := 63488) (by decide) (by decide) hr (by decide) (by decide) (by decide)
    refine own_Fin.step (fun _ => XS.istore X0.here hx rfl (hb hby at_65) rfl (l' := #[.val (.int p1), .val (.int p2), .val (.int p3), .val (.int p4), .val (.long q5), .second, .val (.int (3 : Int32)), .val (.int su), .val (.int rr), .val (.int cp), .unset, .unset]) rfl) ?_
    show own_Fin p e below s _ _ _ (s₁.setTop (mkF m 67 #[.val (.int p1), .val (.int p2), .val (.int p3), .val (.int p4), .val (.long q5), .second, .val (.int (3 : Int32)), .val (.int su), .val (.int rr), .val (.int cp), .unset, .unset] []))
    refine own_Fin.step (fun _ => XS.iload X0.here hx rfl (hb hby at_67) rfl) ?_
    show own_Fin p e below s _ _ _ (s₁.setTop (mkF m 69 #[.val (.int p1), .val (.int p2), .val (.int p3), .val (.int p4), .val (.long q5), .second, .val (.int (3 : Int32)), .val (.int su), .val (.int rr), .val (.int cp), .unset, .unset] [(.int su)]))
    by_cases hc69_25 : su = (0 : Int32)
    ·
      refine own_Fin.step (fun _ => XS.ifNo X0.here hx rfl (hb hby at_69) rfl (XT.i0_ne_f hc69_25)) ?_
      show own_Fin p e below s _ _ _ (s₁.setTop (mkF m 72 #[.val (.int p1), .val (.int p2), .val (.int p3), .val (.int p4), .val (.long q5), .second, .val (.int (3 : Int32)), .val (.int su), .val (.int rr), .val (.int cp), .unset, .unset] []))
      refine own_Fin.step (fun _ => XS.iload X0.here hx rfl (hb hby at_72) rfl) ?_
      show own_Fin p e below s _ _ _ (s₁.setTop (mkF m 74 #[.val (.int p1), .val (.int p2), .val (.int p3), .val (.int p4), .val (.long q5), .second, .val (.int (3 : Int32)), .val (.int su), .val (.int rr), .val (.int cp), .unset, .unset] [(.int cp)]))
      refine own_Fin.step (X0.ldcInt hx hown (mvT hZ (own_w hw 14 rfl)) (g := (mkF m 74 #[.val (.int p1), .val (.int p2), .val (.int p3), .val (.int p4), .val (.long q5), .second, .val (.int (3 : Int32)), .val (.int su), .val (.int rr), .val (.int cp), .unset, .unset] [(.int cp)])) rfl (hb hby at_74)) ?_
      show own_Fin p e below s _ _ _ (s₁.setTop (mkF m 76 #[.val (.int p1), .val (.int p2), .val (.int p3), .val (.int p4), .val (.long q5), .second, .val (.int (3 : Int32)), .val (.int su), .val (.int rr), .val (.int cp), .unset, .unset] [(.int (55296 : Int32)), (.int cp)]))
      by_cases hc76_26 : cp < (55296 : Int32)
      ·
        refine own_Fin.step (fun _ => XS.icmpYes X0.here hx rfl (pc0 := 76) (pc' := 107) rfl (hb hby at_76) rfl (XT.ii_lt_t hc76_26) (by decide) (by decide)) ?_
        show own_Fin p e below s _ _ _ (s₁.setTop (mkF m 107 #[.val (.int p1), .val (.int p2), .val (.int p3), .val (.int p4), .val (.long q5), .second, .val (.int (3 : Int32)), .val (.int su), .val (.int rr), .val (.int cp), .unset, .unset] []))
        have hsr : su = 0 → own_sur (cp.toUInt32.toUInt16.toUInt32.toInt32) = 0 := fun _ => own_nosur ⟨by omega, by omega⟩ (Or.inl hc76_26)
        refine own_Fin.step (fun _ => XS.bipush X0.here hx rfl (hb hby at_107)) ?_
        show own_Fin p e below s _ _ _ (s₁.setTop (mkF m 109 #[.val (.int p1), .val (.int p2), .val (.int p3), .val (.int p4), .val (.long q5), .second, .val (.int (3 : Int32)), .val (.int su), .val (.int rr), .val (.int cp), .unset, .unset] [(.int (6 : Int32))]))
        obtain ⟨T27, h27, k27, b27, X27, e27, E27, g27, V27, st27⟩ := own_newA X0 hx hZ (own_w hw 1 rfl) e0 (ty := .byte) (dv := (.int (0 : Int32))) rfl rfl (g := (mkF m 109 #[.val (.int p1), .val (.int p2), .val (.int p3), .val (.int p4), .val (.long q5), .second, .val (.int (3 : Int32)), .val (.int su), .val (.int rr), .val (.int cp), .unset, .unset] [(.int (6 : Int32))])) rfl (hb hby at_109) rfl (by decide) (cap := 6) (by decide) (by decide) (by decide) (by decide) (6)
        have ge28 : n0 ≤ b27 := Nat.le_trans Z0 (Nat.le_of_eq g27.symm)
        have Z27 : n0 ≤ h27.size := Nat.le_trans Z0 E27.1
        have V27' : Arv Z h27 b27 k27 .byte (6 : Int32) [(.int (0 : Int32)), (.int (0 : Int32)), (.int (0 : Int32)), (.int (0 : Int32)), (.int (0 : Int32)), (.int (0 : Int32))] (.int (0 : Int32)) := V27
        refine own_Fin.step st27 ?_
        show own_Fin p e below s _ _ _ (T27.setTop (mkF m 111 #[.val (.int p1), .val (.int p2), .val (.int p3), .val (.int p4), .val (.long q5), .second, .val (.int (3 : Int32)), .val (.int su), .val (.int rr), .val (.int cp), .unset, .unset] [(.ref b27)]))
        have Vf29 := own_Arf.of (N := 6) V27'
        refine own_Fin.step (fun _ => XS.astore X27.here hx rfl (hb hby at_111) rfl rfl (l' := #[.val (.int p1), .val (.int p2), .val (.int p3), .val (.int p4), .val (.long q5), .second, .val (.int (3 : Int32)), .val (.int su), .val (.int rr), .val (.int cp), .val (.ref b27), .unset]) rfl) ?_
        show own_Fin p e below s _ _ _ (T27.setTop (mkF m 113 #[.val (.int p1), .val (.int p2), .val (.int p3), .val (.int p4), .val (.long q5), .second, .val (.int (3 : Int32)), .val (.int su), .val (.int rr), .val (.int cp), .val (.ref b27), .unset] []))
        refine own_Fin.step (fun _ => XS.aload X27.here hx rfl (hb hby at_113) rfl rfl) ?_
        show own_Fin p e below s _ _ _ (T27.setTop (mkF m 115 #[.val (.int p1), .val (.int p2), .val (.int p3), .val (.int p4), .val (.long q5), .second, .val (.int (3 : Int32)), .val (.int su), .val (.int rr), .val (.int cp), .val (.ref b27), .unset] [(.ref b27)]))
        refine own_Fin.step (fun _ => XS.iconst X27.here hx rfl (hb hby at_115)) ?_
        show own_Fin p e below s _ _ _ (T27.setTop (mkF m 116 #[.val (.int p1), .val (.int p2), .val (.int p3), .val (.int p4), .val (.long q5), .second, .val (.int (3 : Int32)), .val (.int su), .val (.int rr), .val (.int cp), .val (.ref b27), .unset] [(.int (0 : Int32)), (.ref b27)]))
        refine own_Fin.step (fun _ => XS.lload X27.here hx rfl (hb hby at_116) rfl) ?_
        show own_Fin p e below s _ _ _ (T27.setTop (mkF m 118 #[.val (.int p1), .val (.int p2), .val (.int p3), .val (.int p4), .val (.long q5), .second, .val (.int (3 : Int32)), .val (.int su), .val (.int rr), .val (.int cp), .val (.ref b27), .unset] [(.long q5), (.int (0 : Int32)), (.ref b27)]))
        refine own_Fin.step (fun _ => XS.l2i X27.here hx rfl (hb hby at_118) rfl) ?_
        show own_Fin p e below s _ _ _ (T27.setTop (mkF m 119 #[.val (.int p1), .val (.int p2), .val (.int p3), .val (.int p4), .val (.long q5), .second, .val (.int (3 : Int32)), .val (.int su), .val (.int rr), .val (.int cp), .val (.ref b27), .unset] [(.int (q5.toInt32)), (.int (0 : Int32)), (.ref b27)]))
        refine own_Fin.step (fun _ => XS.i2b X27.here hx rfl (hb hby at_119) rfl) ?_
        show own_Fin p e below s _ _ _ (T27.setTop (mkF m 120 #[.val (.int p1), .val (.int p2), .val (.int p3), .val (.int p4), .val (.long q5), .second, .val (.int (3 : Int32)), .val (.int su), .val (.int rr), .val (.int cp), .val (.ref b27), .unset] [(.int ((q5.toInt32).toInt8.toInt32)), (.int (0 : Int32)), (.ref b27)]))
        obtain ⟨T30, h30, X30, e30, V30, W30, st30⟩ := own_stFB X27 hx hZ e27 Vf29 (j := (0 : Int32)) ⟨by decide, by decide⟩ (g := (mkF m 120 #[.val (.int p1), .val (.int p2), .val (.int p3), .val (.int p4), .val (.long q5), .second, .val (.int (3 : Int32)), .val (.int su), .val (.int rr), .val (.int cp), .val (.ref b27), .unset] [(.int ((q5.toInt32).toInt8.toInt32)), (.int (0 : Int32)), (.ref b27)])) rfl rfl (hb hby at_120)
        have N30 := Fr.snoc X30 N0 ge28
        have Z30 : n0 ≤ h30.size := Nat.le_trans Z27 (Nat.le_of_eq W30.size.symm)
        refine own_Fin.step st30 ?_
        show own_Fin p e below s _ _ _ (T30.setTop (mkF m 121 #[.val (.int p1), .val (.int p2), .val (.int p3), .val (.int p4), .val (.long q5), .second, .val (.int (3 : Int32)), .val (.int su), .val (.int rr), .val (.int cp), .val (.ref b27), .unset] []))
        refine own_Fin.step (fun _ => XS.aload X30.here hx rfl (hb hby at_121) rfl rfl) ?_
        show own_Fin p e below s _ _ _ (T30.setTop (mkF m 123 #[.val (.int p1), .val (.int p2), .val (.int p3), .val (.int p4), .val (.long q5), .second, .val (.int (3 : Int32)), .val (.int su), .val (.int rr), .val (.int cp), .val (.ref b27), .unset] [(.ref b27)]))
        refine own_Fin.step (fun _ => XS.iconst X30.here hx rfl (hb hby at_123)) ?_
        show own_Fin p e below s _ _ _ (T30.setTop (mkF m 124 #[.val (.int p1), .val (.int p2), .val (.int p3), .val (.int p4), .val (.long q5), .second, .val (.int (3 : Int32)), .val (.int su), .val (.int rr), .val (.int cp), .val (.ref b27), .unset] [(.int (1 : Int32)), (.ref b27)]))
        refine own_Fin.step (fun _ => XS.lload X30.here hx rfl (hb hby at_124) rfl) ?_
        show own_Fin p e below s _ _ _ (T30.setTop (mkF m 126 #[.val (.int p1), .val (.int p2), .val (.int p3), .val (.int p4), .val (.long q5), .second, .val (.int (3 : Int32)), .val (.int su), .val (.int rr), .val (.int cp), .val (.ref b27), .unset] [(.long q5), (.int (1 : Int32)), (.ref b27)]))
        refine own_Fin.step (fun _ => XS.bipush X30.here hx rfl (hb hby at_126)) ?_
        show own_Fin p e below s _ _ _ (T30.setTop (mkF m 128 #[.val (.int p1), .val (.int p2), .val (.int p3), .val (.int p4), .val (.long q5), .second, .val (.int (3 : Int32)), .val (.int su), .val (.int rr), .val (.int cp), .val (.ref b27), .unset] [(.int (8 : Int32)), (.long q5), (.int (1 : Int32)), (.ref b27)]))
        refine own_Fin.step (fun _ => XS.lushr X30.here hx rfl (hb hby at_128) rfl) ?_
        show own_Fin p e below s _ _ _ (T30.setTop (mkF m 129 #[.val (.int p1), .val (.int p2), .val (.int p3), .val (.int p4), .val (.long q5), .second, .val (.int (3 : Int32)), .val (.int su), .val (.int rr), .val (.int cp), .val (.ref b27), .unset] [(.long ((q5.toUInt64 >>> ((8 : Int32) &&& 0x3f).toInt64.toUInt64).toInt64)), (.int (1 : Int32)), (.ref b27)]))
        refine own_Fin.step (fun _ => XS.l2i X30.here hx rfl (hb hby at_129) rfl) ?_
        show own_Fin p e below s _ _ _ (T30.setTop (mkF m 130 #[.val (.int p1), .val (.int p2), .val (.int p3), .val (.int p4), .val (.long q5), .second, .val (.int (3 : Int32)), .val (.int su), .val (.int rr), .val (.int cp), .val (.ref b27), .unset] [(.int (((q5.toUInt64 >>> ((8 : Int32) &&& 0x3f).toInt64.toUInt64).toInt64).toInt32)), (.int (1 : Int32)), (.ref b27)]))
        refine own_Fin.step (fun _ => XS.i2b X30.here hx rfl (hb hby at_130) rfl) ?_
        show own_Fin p e below s _ _ _ (T30.setTop (mkF m 131 #[.val (.int p1), .val (.int p2), .val (.int p3), .val (.int p4), .val (.long q5), .second, .val (.int (3 : Int32)), .val (.int su), .val (.int rr), .val (.int cp), .val (.ref b27), .unset] [(.int ((((q5.toUInt64 >>> ((8 : Int32) &&& 0x3f).toInt64.toUInt64).toInt64).toInt32).toInt8.toInt32)), (.int (1 : Int32)), (.ref b27)]))
        obtain ⟨T32, h32, X32, e32, V32, W32, st32⟩ := own_stFB X30 hx hZ e30 V30 (j := (1 : Int32)) ⟨by decide, by decide⟩ (g := (mkF m 131 #[.val (.int p1), .val (.int p2), .val (.int p3), .val (.int p4), .val (.long q5), .second, .val (.int (3 : Int32)), .val (.int su), .val (.int rr), .val (.int cp), .val (.ref b27), .unset] [(.int ((((q5.toUInt64 >>> ((8 : Int32) &&& 0x3f).toInt64.toUInt64).toInt64).toInt32).toInt8.toInt32)), (.int (1 : Int32)), (.ref b27)])) rfl rfl (hb hby at_131)
        have N32 := Fr.snoc X32 N30 ge28
        have Z32 : n0 ≤ h32.size := Nat.le_trans Z30 (Nat.le_of_eq W32.size.symm)
        refine own_Fin.step st32 ?_
        show own_Fin p e below s _ _ _ (T32.setTop (mkF m 132 #[.val (.int p1), .val (.int p2), .val (.int p3), .val (.int p4), .val (.long q5), .second, .val (.int (3 : Int32)), .val (.int su), .val (.int rr), .val (.int cp), .val (.ref b27), .unset] []))
        refine own_Fin.step (fun _ => XS.aload X32.here hx rfl (hb hby at_132) rfl rfl) ?_
        show own_Fin p e below s _ _ _ (T32.setTop (mkF m 134 #[.val (.int p1), .val (.int p2), .val (.int p3), .val (.int p4), .val (.long q5), .second, .val (.int (3 : Int32)), .val (.int su), .val (.int rr), .val (.int cp), .val (.ref b27), .unset] [(.ref b27)]))
        refine own_Fin.step (fun _ => XS.iconst X32.here hx rfl (hb hby at_134)) ?_
        show own_Fin p e below s _ _ _ (T32.setTop (mkF m 135 #[.val (.int p1), .val (.int p2), .val (.int p3), .val (.int p4), .val (.long q5), .second, .val (.int (3 : Int32)), .val (.int su), .val (.int rr), .val (.int cp), .val (.ref b27), .unset] [(.int (2 : Int32)), (.ref b27)]))
        refine own_Fin.step (fun _ => XS.lload X32.here hx rfl (hb hby at_135) rfl) ?_
        show own_Fin p e below s _ _ _ (T32.setTop (mkF m 137 #[.val (.int p1), .val (.int p2), .val (.int p3), .val (.int p4), .val (.long q5), .second, .val (.int (3 : Int32)), .val (.int su), .val (.int rr), .val (.int cp), .val (.ref b27), .unset] [(.long q5), (.int (2 : Int32)), (.ref b27)]))
        refine own_Fin.step (fun _ => XS.bipush X32.here hx rfl (hb hby at_137)) ?_
        show own_Fin p e below s _ _ _ (T32.setTop (mkF m 139 #[.val (.int p1), .val (.int p2), .val (.int p3), .val (.int p4), .val (.long q5), .second, .val (.int (3 : Int32)), .val (.int su), .val (.int rr), .val (.int cp), .val (.ref b27), .unset] [(.int (16 : Int32)), (.long q5), (.int (2 : Int32)), (.ref b27)]))
        refine own_Fin.step (fun _ => XS.lushr X32.here hx rfl (hb hby at_139) rfl) ?_
        show own_Fin p e below s _ _ _ (T32.setTop (mkF m 140 #[.val (.int p1), .val (.int p2), .val (.int p3), .val (.int p4), .val (.long q5), .second, .val (.int (3 : Int32)), .val (.int su), .val (.int rr), .val (.int cp), .val (.ref b27), .unset] [(.long ((q5.toUInt64 >>> ((16 : Int32) &&& 0x3f).toInt64.toUInt64).toInt64)), (.int (2 : Int32)), (.ref b27)]))
        refine own_Fin.step (fun _ => XS.l2i X32.here hx rfl (hb hby at_140) rfl) ?_
        show own_Fin p e below s _ _ _ (T32.setTop (mkF m 141 #[.val (.int p1), .val (.int p2), .val (.int p3), .val (.int p4), .val (.long q5), .second, .val (.int (3 : Int32)), .val (.int su), .val (.int rr), .val (.int cp), .val (.ref b27), .unset] [(.int (((q5.toUInt64 >>> ((16 : Int32) &&& 0x3f).toInt64.toUInt64).toInt64).toInt32)), (.int (2 : Int32)), (.ref b27)]))
        refine own_Fin.step (fun _ => XS.i2b X32.here hx rfl (hb hby at_141) rfl) ?_
        show own_Fin p e below s _ _ _ (T32.setTop (mkF m 142 #[.val (.int p1), .val (.int p2), .val (.int p3), .val (.int p4), .val (.long q5), .second, .val (.int (3 : Int32)), .val (.int su), .val (.int rr), .val (.int cp), .val (.ref b27), .unset] [(.int ((((q5.toUInt64 >>> ((16 : Int32) &&& 0x3f).toInt64.toUInt64).toInt64).toInt32).toInt8.toInt32)), (.int (2 : Int32)), (.ref b27)]))
        obtain ⟨T34, h34, X34, e34, V34, W34, st34⟩ := own_stFB X32 hx hZ e32 V32 (j := (2 : Int32)) ⟨by decide, by decide⟩ (g := (mkF m 142 #[.val (.int p1), .val (.int p2), .val (.int p3), .val (.int p4), .val (.long q5), .second, .val (.int (3 : Int32)), .val (.int su), .val (.int rr), .val (.int cp), .val (.ref b27), .unset] [(.int ((((q5.toUInt64 >>> ((16 : Int32) &&& 0x3f).toInt64.toUInt64).toInt64).toInt32).toInt8.toInt32)), (.int (2 : Int32)), (.ref b27)])) rfl rfl (hb hby at_142)
        have N34 := Fr.snoc X34 N32 ge28
        have Z34 : n0 ≤ h34.size := Nat.le_trans Z32 (Nat.le_of_eq W34.size.symm)
        refine own_Fin.step st34 ?_
        show own_Fin p e below s _ _ _ (T34.setTop (mkF m 143 #[.val (.int p1), .val (.int p2), .val (.int p3), .val (.int p4), .val (.long q5), .second, .val (.int (3 : Int32)), .val (.int su), .val (.int rr), .val (.int cp), .val (.ref b27), .unset] []))
        refine own_Fin.step (fun _ => XS.aload X34.here hx rfl (hb hby at_143) rfl rfl) ?_
        show own_Fin p e below s _ _ _ (T34.setTop (mkF m 145 #[.val (.int p1), .val (.int p2), .val (.int p3), .val (.int p4), .val (.long q5), .second, .val (.int (3 : Int32)), .val (.int su), .val (.int rr), .val (.int cp), .val (.ref b27), .unset] [(.ref b27)]))
        refine own_Fin.step (fun _ => XS.iconst X34.here hx rfl (hb hby at_145)) ?_
        show own_Fin p e below s _ _ _ (T34.setTop (mkF m 146 #[.val (.int p1), .val (.int p2), .val (.int p3), .val (.int p4), .val (.long q5), .second, .val (.int (3 : Int32)), .val (.int su), .val (.int rr), .val (.int cp), .val (.ref b27), .unset] [(.int (3 : Int32)), (.ref b27)]))
        refine own_Fin.step (fun _ => XS.lload X34.here hx rfl (hb hby at_146) rfl) ?_
        show own_Fin p e below s _ _ _ (T34.setTop (mkF m 148 #[.val (.int p1), .val (.int p2), .val (.int p3), .val (.int p4), .val (.long q5), .second, .val (.int (3 : Int32)), .val (.int su), .val (.int rr), .val (.int cp), .val (.ref b27), .unset] [(.long q5), (.int (3 : Int32)), (.ref b27)]))
        refine own_Fin.step (fun _ => XS.bipush X34.here hx rfl (hb hby at_148)) ?_
        show own_Fin p e below s _ _ _ (T34.setTop (mkF m 150 #[.val (.int p1), .val (.int p2), .val (.int p3), .val (.int p4), .val (.long q5), .second, .val (.int (3 : Int32)), .val (.int su), .val (.int rr), .val (.int cp), .val (.ref b27), .unset] [(.int (24 : Int32)), (.long q5), (.int (3 : Int32)), (.ref b27)]))
        refine own_Fin.step (fun _ => XS.lushr X34.here hx rfl (hb hby at_150) rfl) ?_
        show own_Fin p e below s _ _ _ (T34.setTop (mkF m 151 #[.val (.int p1), .val (.int p2), .val (.int p3), .val (.int p4), .val (.long q5), .second, .val (.int (3 : Int32)), .val (.int su), .val (.int rr), .val (.int cp), .val (.ref b27), .unset] [(.long ((q5.toUInt64 >>> ((24 : Int32) &&& 0x3f).toInt64.toUInt64).toInt64)), (.int (3 : Int32)), (.ref b27)]))
        refine own_Fin.step (fun _ => XS.l2i X34.here hx rfl (hb hby at_151) rfl) ?_
        show own_Fin p e below s _ _ _ (T34.setTop (mkF m 152 #[.val (.int p1), .val (.int p2), .val (.int p3), .val (.int p4), .val (.long q5), .second, .val (.int (3 : Int32)), .val (.int su), .val (.int rr), .val (.int cp), .val (.ref b27), .unset] [(.int (((q5.toUInt64 >>> ((24 : Int32) &&& 0x3f).toInt64.toUInt64).toInt64).toInt32)), (.int (3 : Int32)), (.ref b27)]))
        refine own_Fin.step (fun _ => XS.i2b X34.here hx rfl (hb hby at_152) rfl) ?_
        show own_Fin p e below s _ _ _ (T34.setTop (mkF m 153 #[.val (.int p1), .val (.int p2), .val (.int p3), .val (.int p4), .val (.long q5), .second, .val (.int (3 : Int32)), .val (.int su), .val (.int rr), .val (.int cp), .val (.ref b27), .unset] [(.int ((((q5.toUInt64 >>> ((24 : Int32) &&& 0x3f).toInt64.toUInt64).toInt64).toInt32).toInt8.toInt32)), (.int (3 : Int32)), (.ref b27)]))
        obtain ⟨T36, h36, X36, e36, V36, W36, st36⟩ := own_stFB X34 hx hZ e34 V34 (j := (3 : Int32)) ⟨by decide, by decide⟩ (g := (mkF m 153 #[.val (.int p1), .val (.int p2), .val (.int p3), .val (.int p4), .val (.long q5), .second, .val (.int (3 : Int32)), .val (.int su), .val (.int rr), .val (.int cp), .val (.ref b27), .unset] [(.int ((((q5.toUInt64 >>> ((24 : Int32) &&& 0x3f).toInt64.toUInt64).toInt64).toInt32).toInt8.toInt32)), (.int (3 : Int32)), (.ref b27)])) rfl rfl (hb hby at_153)
        have N36 := Fr.snoc X36 N34 ge28
        have Z36 : n0 ≤ h36.size := Nat.le_trans Z34 (Nat.le_of_eq W36.size.symm)
        refine own_Fin.step st36 ?_
        show own_Fin p e below s _ _ _ (T36.setTop (mkF m 154 #[.val (.int p1), .val (.int p2), .val (.int p3), .val (.int p4), .val (.long q5), .second, .val (.int (3 : Int32)), .val (.int su), .val (.int rr), .val (.int cp), .val (.ref b27), .unset] []))
        refine own_Fin.step (fun _ => XS.aload X36.here hx rfl (hb hby at_154) rfl rfl) ?_
        show own_Fin p e below s _ _ _ (T36.setTop (mkF m 156 #[.val (.int p1), .val (.int p2), .val (.int p3), .val (.int p4), .val (.long q5), .second, .val (.int (3 : Int32)), .val (.int su), .val (.int rr), .val (.int cp), .val (.ref b27), .unset] [(.ref b27)]))
        refine own_Fin.step (fun _ => XS.iconst X36.here hx rfl (hb hby at_156)) ?_
        show own_Fin p e below s _ _ _ (T36.setTop (mkF m 157 #[.val (.int p1), .val (.int p2), .val (.int p3), .val (.int p4), .val (.long q5), .second, .val (.int (3 : Int32)), .val (.int su), .val (.int rr), .val (.int cp), .val (.ref b27), .unset] [(.int (4 : Int32)), (.ref b27)]))
        refine own_Fin.step (fun _ => XS.lload X36.here hx rfl (hb hby at_157) rfl) ?_
        show own_Fin p e below s _ _ _ (T36.setTop (mkF m 159 #[.val (.int p1), .val (.int p2), .val (.int p3), .val (.int p4), .val (.long q5), .second, .val (.int (3 : Int32)), .val (.int su), .val (.int rr), .val (.int cp), .val (.ref b27), .unset] [(.long q5), (.int (4 : Int32)), (.ref b27)]))
        refine own_Fin.step (fun _ => XS.bipush X36.here hx rfl (hb hby at_159)) ?_
        show own_Fin p e below s _ _ _ (T36.setTop (mkF m 161 #[.val (.int p1), .val (.int p2), .val (.int p3), .val (.int p4), .val (.long q5), .second, .val (.int (3 : Int32)), .val (.int su), .val (.int rr), .val (.int cp), .val (.ref b27), .unset] [(.int (32 : Int32)), (.long q5), (.int (4 : Int32)), (.ref b27)]))
        refine own_Fin.step (fun _ => XS.lushr X36.here hx rfl (hb hby at_161) rfl) ?_
        show own_Fin p e below s _ _ _ (T36.setTop (mkF m 162 #[.val (.int p1), .val (.int p2), .val (.int p3), .val (.int p4), .val (.long q5), .second, .val (.int (3 : Int32)), .val (.int su), .val (.int rr), .val (.int cp), .val (.ref b27), .unset] [(.long ((q5.toUInt64 >>> ((32 : Int32) &&& 0x3f).toInt64.toUInt64).toInt64)), (.int (4 : Int32)), (.ref b27)]))
        refine own_Fin.step (fun _ => XS.l2i X36.here hx rfl (hb hby at_162) rfl) ?_
        show own_Fin p e below s _ _ _ (T36.setTop (mkF m 163 #[.val (.int p1), .val (.int p2), .val (.int p3), .val (.int p4), .val (.long q5), .second, .val (.int (3 : Int32)), .val (.int su), .val (.int rr), .val (.int cp), .val (.ref b27), .unset] [(.int (((q5.toUInt64 >>> ((32 : Int32) &&& 0x3f).toInt64.toUInt64).toInt64).toInt32)), (.int (4 : Int32)), (.ref b27)]))
        refine own_Fin.step (fun _ => XS.i2b X36.here hx rfl (hb hby at_163) rfl) ?_
        show own_Fin p e below s _ _ _ (T36.setTop (mkF m 164 #[.val (.int p1), .val (.int p2), .val (.int p3), .val (.int p4), .val (.long q5), .second, .val (.int (3 : Int32)), .val (.int su), .val (.int rr), .val (.int cp), .val (.ref b27), .unset] [(.int ((((q5.toUInt64 >>> ((32 : Int32) &&& 0x3f).toInt64.toUInt64).toInt64).toInt32).toInt8.toInt32)), (.int (4 : Int32)), (.ref b27)]))
        obtain ⟨T38, h38, X38, e38, V38, W38, st38⟩ := own_stFB X36 hx hZ e36 V36 (j := (4 : Int32)) ⟨by decide, by decide⟩ (g := (mkF m 164 #[.val (.int p1), .val (.int p2), .val (.int p3), .val (.int p4), .val (.long q5), .second, .val (.int (3 : Int32)), .val (.int su), .val (.int rr), .val (.int cp), .val (.ref b27), .unset] [(.int ((((q5.toUInt64 >>> ((32 : Int32) &&& 0x3f).toInt64.toUInt64).toInt64).toInt32).toInt8.toInt32)), (.int (4 : Int32)), (.ref b27)])) rfl rfl (hb hby at_164)
        have N38 := Fr.snoc X38 N36 ge28
        have Z38 : n0 ≤ h38.size := Nat.le_trans Z36 (Nat.le_of_eq W38.size.symm)
        refine own_Fin.step st38 ?_
        show own_Fin p e below s _ _ _ (T38.setTop (mkF m 165 #[.val (.int p1), .val (.int p2), .val (.int p3), .val (.int p4), .val (.long q5), .second, .val (.int (3 : Int32)), .val (.int su), .val (.int rr), .val (.int cp), .val (.ref b27), .unset] []))
        refine own_Fin.step (fun _ => XS.aload X38.here hx rfl (hb hby at_165) rfl rfl) ?_
        show own_Fin p e below s _ _ _ (T38.setTop (mkF m 167 #[.val (.int p1), .val (.int p2), .val (.int p3), .val (.int p4), .val (.long q5), .second, .val (.int (3 : Int32)), .val (.int su), .val (.int rr), .val (.int cp), .val (.ref b27), .unset] [(.ref b27)]))
        refine own_Fin.step (fun _ => XS.iconst X38.here hx rfl (hb hby at_167)) ?_
        show own_Fin p e below s _ _ _ (T38.setTop (mkF m 168 #[.val (.int p1), .val (.int p2), .val (.int p3), .val (.int p4), .val (.long q5), .second, .val (.int (3 : Int32)), .val (.int su), .val (.int rr), .val (.int cp), .val (.ref b27), .unset] [(.int (5 : Int32)), (.ref b27)]))
        refine own_Fin.step (fun _ => XS.lload X38.here hx rfl (hb hby at_168) rfl) ?_
        show own_Fin p e below s _ _ _ (T38.setTop (mkF m 170 #[.val (.int p1), .val (.int p2), .val (.int p3), .val (.int p4), .val (.long q5), .second, .val (.int (3 : Int32)), .val (.int su), .val (.int rr), .val (.int cp), .val (.ref b27), .unset] [(.long q5), (.int (5 : Int32)), (.ref b27)]))
        refine own_Fin.step (fun _ => XS.bipush X38.here hx rfl (hb hby at_170)) ?_
        show own_Fin p e below s _ _ _ (T38.setTop (mkF m 172 #[.val (.int p1), .val (.int p2), .val (.int p3), .val (.int p4), .val (.long q5), .second, .val (.int (3 : Int32)), .val (.int su), .val (.int rr), .val (.int cp), .val (.ref b27), .unset] [(.int (40 : Int32)), (.long q5), (.int (5 : Int32)), (.ref b27)]))
        refine own_Fin.step (fun _ => XS.lushr X38.here hx rfl (hb hby at_172) rfl) ?_
        show own_Fin p e below s _ _ _ (T38.setTop (mkF m 173 #[.val (.int p1), .val (.int p2), .val (.int p3), .val (.int p4), .val (.long q5), .second, .val (.int (3 : Int32)), .val (.int su), .val (.int rr), .val (.int cp), .val (.ref b27), .unset] [(.long ((q5.toUInt64 >>> ((40 : Int32) &&& 0x3f).toInt64.toUInt64).toInt64)), (.int (5 : Int32)), (.ref b27)]))
        refine own_Fin.step (fun _ => XS.l2i X38.here hx rfl (hb hby at_173) rfl) ?_
        show own_Fin p e below s _ _ _ (T38.setTop (mkF m 174 #[.val (.int p1), .val (.int p2), .val (.int p3), .val (.int p4), .val (.long q5), .second, .val (.int (3 : Int32)), .val (.int su), .val (.int rr), .val (.int cp), .val (.ref b27), .unset] [(.int (((q5.toUInt64 >>> ((40 : Int32) &&& 0x3f).toInt64.toUInt64).toInt64).toInt32)), (.int (5 : Int32)), (.ref b27)]))
        refine own_Fin.step (fun _ => XS.i2b X38.here hx rfl (hb hby at_174) rfl) ?_
        show own_Fin p e below s _ _ _ (T38.setTop (mkF m 175 #[.val (.int p1), .val (.int p2), .val (.int p3), .val (.int p4), .val (.long q5), .second, .val (.int (3 : Int32)), .val (.int su), .val (.int rr), .val (.int cp), .val (.ref b27), .unset] [(.int ((((q5.toUInt64 >>> ((40 : Int32) &&& 0x3f).toInt64.toUInt64).toInt64).toInt32).toInt8.toInt32)), (.int (5 : Int32)), (.ref b27)]))
        obtain ⟨T40, h40, X40, e40, V40, W40, st40⟩ := own_stFB X38 hx hZ e38 V38 (j := (5 : Int32)) ⟨by decide, by decide⟩ (g := (mkF m 175 #[.val (.int p1), .val (.int p2), .val (.int p3), .val (.int p4), .val (.long q5), .second, .val (.int (3 : Int32)), .val (.int su), .val (.int rr), .val (.int cp), .val (.ref b27), .unset] [(.int ((((q5.toUInt64 >>> ((40 : Int32) &&& 0x3f).toInt64.toUInt64).toInt64).toInt32).toInt8.toInt32)), (.int (5 : Int32)), (.ref b27)])) rfl rfl (hb hby at_175)
        have N40 := Fr.snoc X40 N38 ge28
        have Z40 : n0 ≤ h40.size := Nat.le_trans Z38 (Nat.le_of_eq W40.size.symm)
        refine own_Fin.step st40 ?_
        show own_Fin p e below s _ _ _ (T40.setTop (mkF m 176 #[.val (.int p1), .val (.int p2), .val (.int p3), .val (.int p4), .val (.long q5), .second, .val (.int (3 : Int32)), .val (.int su), .val (.int rr), .val (.int cp), .val (.ref b27), .unset] []))
        refine own_Fin.step (fun _ => XS.iloadN X40.here hx rfl (hb hby at_176) rfl) ?_
        show own_Fin p e below s _ _ _ (T40.setTop (mkF m 177 #[.val (.int p1), .val (.int p2), .val (.int p3), .val (.int p4), .val (.long q5), .second, .val (.int (3 : Int32)), .val (.int su), .val (.int rr), .val (.int cp), .val (.ref b27), .unset] [(.int p4)]))
        refine own_Fin.step (X40.ldcInt hx hown (mvT hZ (own_w hw 0 rfl)) (g := (mkF m 177 #[.val (.int p1), .val (.int p2), .val (.int p3), .val (.int p4), .val (.long q5), .second, .val (.int (3 : Int32)), .val (.int su), .val (.int rr), .val (.int cp), .val (.ref b27), .unset] [(.int p4)])) rfl (hb hby at_177)) ?_
        show own_Fin p e below s _ _ _ (T40.setTop (mkF m 179 #[.val (.int p1), .val (.int p2), .val (.int p3), .val (.int p4), .val (.long q5), .second, .val (.int (3 : Int32)), .val (.int su), .val (.int rr), .val (.int cp), .val (.ref b27), .unset] [(.int (2147483647 : Int32)), (.int p4)]))
        refine own_Fin.step (fun _ => XS.iand X40.here hx rfl (hb hby at_179) rfl) ?_
        show own_Fin p e below s _ _ _ (T40.setTop (mkF m 180 #[.val (.int p1), .val (.int p2), .val (.int p3), .val (.int p4), .val (.long q5), .second, .val (.int (3 : Int32)), .val (.int su), .val (.int rr), .val (.int cp), .val (.ref b27), .unset] [(.int (p4 &&& (2147483647 : Int32)))]))
        refine own_Fin.step (fun _ => XS.bipush X40.here hx rfl (hb hby at_180)) ?_
        show own_Fin p e below s _ _ _ (T40.setTop (mkF m 182 #[.val (.int p1), .val (.int p2), .val (.int p3), .val (.int p4), .val (.long q5), .second, .val (.int (3 : Int32)), .val (.int su), .val (.int rr), .val (.int cp), .val (.ref b27), .unset] [(.int (7 : Int32)), (.int (p4 &&& (2147483647 : Int32)))]))
        refine own_Fin.step (fun _ => XS.iload X40.here hx rfl (hb hby at_182) rfl) ?_
        show own_Fin p e below s _ _ _ (T40.setTop (mkF m 184 #[.val (.int p1), .val (.int p2), .val (.int p3), .val (.int p4), .val (.long q5), .second, .val (.int (3 : Int32)), .val (.int su), .val (.int rr), .val (.int cp), .val (.ref b27), .unset] [(.int (3 : Int32)), (.int (7 : Int32)), (.int (p4 &&& (2147483647 : Int32)))]))
        refine own_Fin.step (fun _ => XS.isub X40.here hx rfl (hb hby at_184) rfl) ?_
        show own_Fin p e below s _ _ _ (T40.setTop (mkF m 185 #[.val (.int p1), .val (.int p2), .val (.int p3), .val (.int p4), .val (.long q5), .second, .val (.int (3 : Int32)), .val (.int su), .val (.int rr), .val (.int cp), .val (.ref b27), .unset] [(.int (4 : Int32)), (.int (p4 &&& (2147483647 : Int32)))]))
        refine own_Fin.step (fun _ => Jvm.RoadKit.iremM X40 hx rfl (hb hby at_185) rfl (by decide)) ?_
        show own_Fin p e below s _ _ _ (T40.setTop (mkF m 186 #[.val (.int p1), .val (.int p2), .val (.int p3), .val (.int p4), .val (.long q5), .second, .val (.int (3 : Int32)), .val (.int su), .val (.int rr), .val (.int cp), .val (.ref b27), .unset] [(.int ((p4 &&& (2147483647 : Int32)) % (4 : Int32)))]))
        generalize ht0 : ((p4 &&& (2147483647 : Int32)) % (4 : Int32)) = t
        have ht : 0 ≤ t.toInt ∧ t.toInt < 4 := ht0 ▸ own_rem (d := 4) (by decide) (own_nn p4) (by decide)
        have nx1 := (own_ix (t := t) (i := 1) (iv := 1) (by decide) ht (by decide) (by decide)).2
        have nx2 := (own_ix (t := t) (i := 2) (iv := 2) (by decide) ht (by decide) (by decide)).2
        refine own_Fin.step (fun _ => XS.istore X40.here hx rfl (hb hby at_186) rfl (l' := #[.val (.int p1), .val (.int p2), .val (.int p3), .val (.int p4), .val (.long q5), .second, .val (.int (3 : Int32)), .val (.int su), .val (.int rr), .val (.int cp), .val (.ref b27), .val (.int t)]) rfl) ?_
        show own_Fin p e below s _ _ _ (T40.setTop (mkF m 188 #[.val (.int p1), .val (.int p2), .val (.int p3), .val (.int p4), .val (.long q5), .second, .val (.int (3 : Int32)), .val (.int su), .val (.int rr), .val (.int cp), .val (.ref b27), .val (.int t)] []))
        refine own_Fin.step (fun _ => XS.iload X40.here hx rfl (hb hby at_188) rfl) ?_
        show own_Fin p e below s _ _ _ (T40.setTop (mkF m 190 #[.val (.int p1), .val (.int p2), .val (.int p3), .val (.int p4), .val (.long q5), .second, .val (.int (3 : Int32)), .val (.int su), .val (.int rr), .val (.int cp), .val (.ref b27), .val (.int t)] [(.int (3 : Int32))]))
        refine own_Fin.step (fun _ => XS.iconst X40.here hx rfl (hb hby at_190)) ?_
        show own_Fin p e below s _ _ _ (T40.setTop (mkF m 191 #[.val (.int p1), .val (.int p2), .val (.int p3), .val (.int p4), .val (.long q5), .second, .val (.int (3 : Int32)), .val (.int su), .val (.int rr), .val (.int cp), .val (.ref b27), .val (.int t)] [(.int (2 : Int32)), (.int (3 : Int32))]))
        refine own_Fin.step (fun _ => XS.icmpYes X40.here hx rfl (pc0 := 191) (pc' := 229) rfl (hb hby at_191) rfl (XT.ii_ne_t (by decide : ¬ ((3 : Int32) = (2 : Int32)))) (by decide) (by decide)) ?_
        show own_Fin p e below s _ _ _ (T40.setTop (mkF m 229 #[.val (.int p1), .val (.int p2), .val (.int p3), .val (.int p4), .val (.long q5), .second, .val (.int (3 : Int32)), .val (.int su), .val (.int rr), .val (.int cp), .val (.ref b27), .val (.int t)] []))
        refine own_Fin.step (fun _ => XS.iload X40.here hx rfl (hb hby at_229) rfl) ?_
        show own_Fin p e below s _ _ _ (T40.setTop (mkF m 231 #[.val (.int p1), .val (.int p2), .val (.int p3), .val (.int p4), .val (.long q5), .second, .val (.int (3 : Int32)), .val (.int su), .val (.int rr), .val (.int cp), .val (.ref b27), .val (.int t)] [(.int (3 : Int32))]))
        refine own_Fin.step (fun _ => XS.iconst X40.here hx rfl (hb hby at_231)) ?_
        show own_Fin p e below s _ _ _ (T40.setTop (mkF m 232 #[.val (.int p1), .val (.int p2), .val (.int p3), .val (.int p4), .val (.long q5), .second, .val (.int (3 : Int32)), .val (.int su), .val (.int rr), .val (.int cp), .val (.ref b27), .val (.int t)] [(.int (3 : Int32)), (.int (3 : Int32))]))
        refine own_Fin.step (fun _ => XS.icmpNo X40.here hx rfl (hb hby at_232) rfl (XT.ii_ne_f (by decide : (3 : Int32) = (3 : Int32)))) ?_
        show own_Fin p e below s _ _ _ (T40.setTop (mkF m 235 #[.val (.int p1), .val (.int p2), .val (.int p3), .val (.int p4), .val (.long q5), .second, .val (.int (3 : Int32)), .val (.int su), .val (.int rr), .val (.int cp), .val (.ref b27), .val (.int t)] []))
        refine own_Fin.step (fun _ => XS.aload X40.here hx rfl (hb hby at_235) rfl rfl) ?_
        show own_Fin p e below s _ _ _ (T40.setTop (mkF m 237 #[.val (.int p1), .val (.int p2), .val (.int p3), .val (.int p4), .val (.long q5), .second, .val (.int (3 : Int32)), .val (.int su), .val (.int rr), .val (.int cp), .val (.ref b27), .val (.int t)] [(.ref b27)]))
        refine own_Fin.step (fun _ => XS.iload X40.here hx rfl (hb hby at_237) rfl) ?_
        show own_Fin p e below s _ _ _ (T40.setTop (mkF m 239 #[.val (.int p1), .val (.int p2), .val (.int p3), .val (.int p4), .val (.long q5), .second, .val (.int (3 : Int32)), .val (.int su), .val (.int rr), .val (.int cp), .val (.ref b27), .val (.int t)] [(.int t), (.ref b27)]))
        refine own_Fin.step (fun _ => XS.sipush X40.here hx rfl (hb hby at_239)) ?_
        show own_Fin p e below s _ _ _ (T40.setTop (mkF m 242 #[.val (.int p1), .val (.int p2), .val (.int p3), .val (.int p4), .val (.long q5), .second, .val (.int (3 : Int32)), .val (.int su), .val (.int rr), .val (.int cp), .val (.ref b27), .val (.int t)] [(.int (224 : Int32)), (.int t), (.ref b27)]))
        refine own_Fin.step (fun _ => XS.iload X40.here hx rfl (hb hby at_242) rfl) ?_
        show own_Fin p e below s _ _ _ (T40.setTop (mkF m 244 #[.val (.int p1), .val (.int p2), .val (.int p3), .val (.int p4), .val (.long q5), .second, .val (.int (3 : Int32)), .val (.int su), .val (.int rr), .val (.int cp), .val (.ref b27), .val (.int t)] [(.int cp), (.int (224 : Int32)), (.int t), (.ref b27)]))
        refine own_Fin.step (fun _ => XS.bipush X40.here hx rfl (hb hby at_244)) ?_
        show own_Fin p e below s _ _ _ (T40.setTop (mkF m 246 #[.val (.int p1), .val (.int p2), .val (.int p3), .val (.int p4), .val (.long q5), .second, .val (.int (3 : Int32)), .val (.int su), .val (.int rr), .val (.int cp), .val (.ref b27), .val (.int t)] [(.int (12 : Int32)), (.int cp), (.int (224 : Int32)), (.int t), (.ref b27)]))
        refine own_Fin.step (fun _ => XS.iushr X40.here hx rfl (hb hby at_246) rfl) ?_
        show own_Fin p e below s _ _ _ (T40.setTop (mkF m 247 #[.val (.int p1), .val (.int p2), .val (.int p3), .val (.int p4), .val (.long q5), .second, .val (.int (3 : Int32)), .val (.int su), .val (.int rr), .val (.int cp), .val (.ref b27), .val (.int t)] [(.int ((cp.toUInt32 >>> ((12 : Int32) &&& 31).toUInt32).toInt32)), (.int (224 : Int32)), (.int t), (.ref b27)]))
        refine own_Fin.step (fun _ => XS.ior X40.here hx rfl (hb hby at_247) rfl) ?_
        show own_Fin p e below s _ _ _ (T40.setTop (mkF m 248 #[.val (.int p1), .val (.int p2), .val (.int p3), .val (.int p4), .val (.long q5), .second, .val (.int (3 : Int32)), .val (.int su), .val (.int rr), .val (.int cp), .val (.ref b27), .val (.int t)] [(.int ((224 : Int32) ||| ((cp.toUInt32 >>> ((12 : Int32) &&& 31).toUInt32).toInt32))), (.int t), (.ref b27)]))
        refine own_Fin.step (fun _ => XS.i2b X40.here hx rfl (hb hby at_248) rfl) ?_
        show own_Fin p e below s _ _ _ (T40.setTop (mkF m 249 #[.val (.int p1), .val (.int p2), .val (.int p3), .val (.int p4), .val (.long q5), .second, .val (.int (3 : Int32)), .val (.int su), .val (.int rr), .val (.int cp), .val (.ref b27), .val (.int t)] [(.int (((224 : Int32) ||| ((cp.toUInt32 >>> ((12 : Int32) &&& 31).toUInt32).toInt32)).toInt8.toInt32)), (.int t), (.ref b27)]))
        obtain ⟨T42, h42, X42, e42, V42, W42, st42⟩ := own_stFB X40 hx hZ e40 V40 (j := t) (own_ix0 ht (by decide)) (g := (mkF m 249 #[.val (.int p1), .val (.int p2), .val (.int p3), .val (.int p4), .val (.long q5), .second, .val (.int (3 : Int32)), .val (.int su), .val (.int rr), .val (.int cp), .val (.ref b27), .val (.int t)] [(.int (((224 : Int32) ||| ((cp.toUInt32 >>> ((12 : Int32) &&& 31).toUInt32).toInt32)).toInt8.toInt32)), (.int t), (.ref b27)])) rfl rfl (hb hby at_249)
        have N42 := Fr.snoc X42 N40 ge28
        have Z42 : n0 ≤ h42.size := Nat.le_trans Z40 (Nat.le_of_eq W42.size.symm)
        refine own_Fin.step st42 ?_
        show own_Fin p e below s _ _ _ (T42.setTop (mkF m 250 #[.val (.int p1), .val (.int p2), .val (.int p3), .val (.int p4), .val (.long q5), .second, .val (.int (3 : Int32)), .val (.int su), .val (.int rr), .val (.int cp), .val (.ref b27), .val (.int t)] []))
        refine own_Fin.step (fun _ => XS.aload X42.here hx rfl (hb hby at_250) rfl rfl) ?_
        show own_Fin p e below s _ _ _ (T42.setTop (mkF m 252 #[.val (.int p1), .val (.int p2), .val (.int p3), .val (.int p4), .val (.long q5), .second, .val (.int (3 : Int32)), .val (.int su), .val (.int rr), .val (.int cp), .val (.ref b27), .val (.int t)] [(.ref b27)]))
        refine own_Fin.step (fun _ => XS.iload X42.here hx rfl (hb hby at_252) rfl) ?_
        show own_Fin p e below s _ _ _ (T42.setTop (mkF m 254 #[.val (.int p1), .val (.int p2), .val (.int p3), .val (.int p4), .val (.long q5), .second, .val (.int (3 : Int32)), .val (.int su), .val (.int rr), .val (.int cp), .val (.ref b27), .val (.int t)] [(.int t), (.ref b27)]))
        refine own_Fin.step (fun _ => XS.iconst X42.here hx rfl (hb hby at_254)) ?_
        show own_Fin p e below s _ _ _ (T42.setTop (mkF m 255 #[.val (.int p1), .val (.int p2), .val (.int p3), .val (.int p4), .val (.long q5), .second, .val (.int (3 : Int32)), .val (.int su), .val (.int rr), .val (.int cp), .val (.ref b27), .val (.int t)] [(.int (1 : Int32)), (.int t), (.ref b27)]))
        refine own_Fin.step (fun _ => XS.iadd X42.here hx rfl (hb hby at_255) rfl) ?_
        show own_Fin p e below s _ _ _ (T42.setTop (mkF m 256 #[.val (.int p1), .val (.int p2), .val (.int p3), .val (.int p4), .val (.long q5), .second, .val (.int (3 : Int32)), .val (.int su), .val (.int rr), .val (.int cp), .val (.ref b27), .val (.int t)] [(.int (t + (1 : Int32))), (.ref b27)]))
        refine own_Fin.step (fun _ => XS.sipush X42.here hx rfl (hb hby at_256)) ?_
        show own_Fin p e below s _ _ _ (T42.setTop (mkF m 259 #[.val (.int p1), .val (.int p2), .val (.int p3), .val (.int p4), .val (.long q5), .second, .val (.int (3 : Int32)), .val (.int su), .val (.int rr), .val (.int cp), .val (.ref b27), .val (.int t)] [(.int (128 : Int32)), (.int (t + (1 : Int32))), (.ref b27)]))
        refine own_Fin.step (fun _ => XS.iload X42.here hx rfl (hb hby at_259) rfl) ?_
        show own_Fin p e below s _ _ _ (T42.setTop (mkF m 261 #[.val (.int p1), .val (.int p2), .val (.int p3), .val (.int p4), .val (.long q5), .second, .val (.int (3 : Int32)), .val (.int su), .val (.int rr), .val (.int cp), .val (.ref b27), .val (.int t)] [(.int cp), (.int (128 : Int32)), (.int (t + (1 : Int32))), (.ref b27)]))
        refine own_Fin.step (fun _ => XS.bipush X42.here hx rfl (hb hby at_261)) ?_
        show own_Fin p e below s _ _ _ (T42.setTop (mkF m 263 #[.val (.int p1), .val (.int p2), .val (.int p3), .val (.int p4), .val (.long q5), .second, .val (.int (3 : Int32)), .val (.int su), .val (.int rr), .val (.int cp), .val (.ref b27), .val (.int t)] [(.int (6 : Int32)), (.int cp), (.int (128 : Int32)), (.int (t + (1 : Int32))), (.ref b27)]))
        refine own_Fin.step (fun _ => XS.iushr X42.here hx rfl (hb hby at_263) rfl) ?_
        show own_Fin p e below s _ _ _ (T42.setTop (mkF m 264 #[.val (.int p1), .val (.int p2), .val (.int p3), .val (.int p4), .val (.long q5), .second, .val (.int (3 : Int32)), .val (.int su), .val (.int rr), .val (.int cp), .val (.ref b27), .val (.int t)] [(.int ((cp.toUInt32 >>> ((6 : Int32) &&& 31).toUInt32).toInt32)), (.int (128 : Int32)), (.int (t + (1 : Int32))), (.ref b27)]))
        refine own_Fin.step (fun _ => XS.bipush X42.here hx rfl (hb hby at_264)) ?_
        show own_Fin p e below s _ _ _ (T42.setTop (mkF m 266 #[.val (.int p1), .val (.int p2), .val (.int p3), .val (.int p4), .val (.long q5), .second, .val (.int (3 : Int32)), .val (.int su), .val (.int rr), .val (.int cp), .val (.ref b27), .val (.int t)] [(.int (63 : Int32)), (.int ((cp.toUInt32 >>> ((6 : Int32) &&& 31).toUInt32).toInt32)), (.int (128 : Int32)), (.int (t + (1 : Int32))), (.ref b27)]))
        refine own_Fin.step (fun _ => XS.iand X42.here hx rfl (hb hby at_266) rfl) ?_
        show own_Fin p e below s _ _ _ (T42.setTop (mkF m 267 #[.val (.int p1), .val (.int p2), .val (.int p3), .val (.int p4), .val (.long q5), .second, .val (.int (3 : Int32)), .val (.int su), .val (.int rr), .val (.int cp), .val (.ref b27), .val (.int t)] [(.int (((cp.toUInt32 >>> ((6 : Int32) &&& 31).toUInt32).toInt32) &&& (63 : Int32))), (.int (128 : Int32)), (.int (t + (1 : Int32))), (.ref b27)]))
        refine own_Fin.step (fun _ => XS.ior X42.here hx rfl (hb hby at_267) rfl) ?_
        show own_Fin p e below s _ _ _ (T42.setTop (mkF m 268 #[.val (.int p1), .val (.int p2), .val (.int p3), .val (.int p4), .val (.long q5), .second, .val (.int (3 : Int32)), .val (.int su), .val (.int rr), .val (.int cp), .val (.ref b27), .val (.int t)] [(.int ((128 : Int32) ||| (((cp.toUInt32 >>> ((6 : Int32) &&& 31).toUInt32).toInt32) &&& (63 : Int32)))), (.int (t + (1 : Int32))), (.ref b27)]))
        refine own_Fin.step (fun _ => XS.i2b X42.here hx rfl (hb hby at_268) rfl) ?_
        show own_Fin p e below s _ _ _ (T42.setTop (mkF m 269 #[.val (.int p1), .val (.int p2), .val (.int p3), .val (.int p4), .val (.long q5), .second, .val (.int (3 : Int32)), .val (.int su), .val (.int rr), .val (.int cp), .val (.ref b27), .val (.int t)] [(.int (((128 : Int32) ||| (((cp.toUInt32 >>> ((6 : Int32) &&& 31).toUInt32).toInt32) &&& (63 : Int32))).toInt8.toInt32)), (.int (t + (1 : Int32))), (.ref b27)]))
        obtain ⟨T44, h44, X44, e44, V44, W44, st44⟩ := own_stFB X42 hx hZ e42 V42 (j := (t + (1 : Int32))) (own_ix (i := 1) (iv := 1) (by decide) ht (by decide) (by decide)).1 (g := (mkF m 269 #[.val (.int p1), .val (.int p2), .val (.int p3), .val (.int p4), .val (.long q5), .second, .val (.int (3 : Int32)), .val (.int su), .val (.int rr), .val (.int cp), .val (.ref b27), .val (.int t)] [(.int (((128 : Int32) ||| (((cp.toUInt32 >>> ((6 : Int32) &&& 31).toUInt32).toInt32) &&& (63 : Int32))).toInt8.toInt32)), (.int (t + (1 : Int32))), (.ref b27)])) rfl rfl (hb hby at_269)
        have N44 := Fr.snoc X44 N42 ge28
        have Z44 : n0 ≤ h44.size := Nat.le_trans Z42 (Nat.le_of_eq W44.size.symm)
        refine own_Fin.step st44 ?_
        show own_Fin p e below s _ _ _ (T44.setTop (mkF m 270 #[.val (.int p1), .val (.int p2), .val (.int p3), .val (.int p4), .val (.long q5), .second, .val (.int (3 : Int32)), .val (.int su), .val (.int rr), .val (.int cp), .val (.ref b27), .val (.int t)] []))
        refine own_Fin.step (fun _ => XS.aload X44.here hx rfl (hb hby at_270) rfl rfl) ?_
        show own_Fin p e below s _ _ _ (T44.setTop (mkF m 272 #[.val (.int p1), .val (.int p2), .val (.int p3), .val (.int p4), .val (.long q5), .second, .val (.int (3 : Int32)), .val (.int su), .val (.int rr), .val (.int cp), .val (.ref b27), .val (.int t)] [(.ref b27)]))
        refine own_Fin.step (fun _ => XS.iload X44.here hx rfl (hb hby at_272) rfl) ?_
        show own_Fin p e below s _ _ _ (T44.setTop (mkF m 274 #[.val (.int p1), .val (.int p2), .val (.int p3), .val (.int p4), .val (.long q5), .second, .val (.int (3 : Int32)), .val (.int su), .val (.int rr), .val (.int cp), .val (.ref b27), .val (.int t)] [(.int t), (.ref b27)]))
        refine own_Fin.step (fun _ => XS.iconst X44.here hx rfl (hb hby at_274)) ?_
        show own_Fin p e below s _ _ _ (T44.setTop (mkF m 275 #[.val (.int p1), .val (.int p2), .val (.int p3), .val (.int p4), .val (.long q5), .second, .val (.int (3 : Int32)), .val (.int su), .val (.int rr), .val (.int cp), .val (.ref b27), .val (.int t)] [(.int (2 : Int32)), (.int t), (.ref b27)]))
        refine own_Fin.step (fun _ => XS.iadd X44.here hx rfl (hb hby at_275) rfl) ?_
        show own_Fin p e below s _ _ _ (T44.setTop (mkF m 276 #[.val (.int p1), .val (.int p2), .val (.int p3), .val (.int p4), .val (.long q5), .second, .val (.int (3 : Int32)), .val (.int su), .val (.int rr), .val (.int cp), .val (.ref b27), .val (.int t)] [(.int (t + (2 : Int32))), (.ref b27)]))
        refine own_Fin.step (fun _ => XS.sipush X44.here hx rfl (hb hby at_276)) ?_
        show own_Fin p e below s _ _ _ (T44.setTop (mkF m 279 #[.val (.int p1), .val (.int p2), .val (.int p3), .val (.int p4), .val (.long q5), .second, .val (.int (3 : Int32)), .val (.int su), .val (.int rr), .val (.int cp), .val (.ref b27), .val (.int t)] [(.int (128 : Int32)), (.int (t + (2 : Int32))), (.ref b27)]))
        refine own_Fin.step (fun _ => XS.iload X44.here hx rfl (hb hby at_279) rfl) ?_
        show own_Fin p e below s _ _ _ (T44.setTop (mkF m 281 #[.val (.int p1), .val (.int p2), .val (.int p3), .val (.int p4), .val (.long q5), .second, .val (.int (3 : Int32)), .val (.int su), .val (.int rr), .val (.int cp), .val (.ref b27), .val (.int t)] [(.int cp), (.int (128 : Int32)), (.int (t + (2 : Int32))), (.ref b27)]))
        refine own_Fin.step (fun _ => XS.bipush X44.here hx rfl (hb hby at_281)) ?_
        show own_Fin p e below s _ _ _ (T44.setTop (mkF m 283 #[.val (.int p1), .val (.int p2), .val (.int p3), .val (.int p4), .val (.long q5), .second, .val (.int (3 : Int32)), .val (.int su), .val (.int rr), .val (.int cp), .val (.ref b27), .val (.int t)] [(.int (63 : Int32)), (.int cp), (.int (128 : Int32)), (.int (t + (2 : Int32))), (.ref b27)]))
        refine own_Fin.step (fun _ => XS.iand X44.here hx rfl (hb hby at_283) rfl) ?_
        show own_Fin p e below s _ _ _ (T44.setTop (mkF m 284 #[.val (.int p1), .val (.int p2), .val (.int p3), .val (.int p4), .val (.long q5), .second, .val (.int (3 : Int32)), .val (.int su), .val (.int rr), .val (.int cp), .val (.ref b27), .val (.int t)] [(.int (cp &&& (63 : Int32))), (.int (128 : Int32)), (.int (t + (2 : Int32))), (.ref b27)]))
        refine own_Fin.step (fun _ => XS.ior X44.here hx rfl (hb hby at_284) rfl) ?_
        show own_Fin p e below s _ _ _ (T44.setTop (mkF m 285 #[.val (.int p1), .val (.int p2), .val (.int p3), .val (.int p4), .val (.long q5), .second, .val (.int (3 : Int32)), .val (.int su), .val (.int rr), .val (.int cp), .val (.ref b27), .val (.int t)] [(.int ((128 : Int32) ||| (cp &&& (63 : Int32)))), (.int (t + (2 : Int32))), (.ref b27)]))
        refine own_Fin.step (fun _ => XS.i2b X44.here hx rfl (hb hby at_285) rfl) ?_
        show own_Fin p e below s _ _ _ (T44.setTop (mkF m 286 #[.val (.int p1), .val (.int p2), .val (.int p3), .val (.int p4), .val (.long q5), .second, .val (.int (3 : Int32)), .val (.int su), .val (.int rr), .val (.int cp), .val (.ref b27), .val (.int t)] [(.int (((128 : Int32) ||| (cp &&& (63 : Int32))).toInt8.toInt32)), (.int (t + (2 : Int32))), (.ref b27)]))
        obtain ⟨T46, h46, X46, e46, V46, W46, st46⟩ := own_stFB X44 hx hZ e44 V44 (j := (t + (2 : Int32))) (own_ix (i := 2) (iv := 2) (by decide) ht (by decide) (by decide)).1 (g := (mkF m 286 #[.val (.int p1), .val (.int p2), .val (.int p3), .val (.int p4), .val (.long q5), .second, .val (.int (3 : Int32)), .val (.int su), .val (.int rr), .val (.int cp), .val (.ref b27), .val (.int t)] [(.int (((128 : Int32) ||| (cp &&& (63 : Int32))).toInt8.toInt32)), (.int (t + (2 : Int32))), (.ref b27)])) rfl rfl (hb hby at_286)
        have N46 := Fr.snoc X46 N44 ge28
        have Z46 : n0 ≤ h46.size := Nat.le_trans Z44 (Nat.le_of_eq W46.size.symm)
        refine own_Fin.step st46 ?_
        show own_Fin p e below s _ _ _ (T46.setTop (mkF m 287 #[.val (.int p1), .val (.int p2), .val (.int p3), .val (.int p4), .val (.long q5), .second, .val (.int (3 : Int32)), .val (.int su), .val (.int rr), .val (.int cp), .val (.ref b27), .val (.int t)] []))
        refine own_Fin.step (fun _ => XS.goto X46.here hx rfl (pc0 := 287) (pc' := 362) rfl (hb hby at_287) (by decide) (by decide)) ?_
        show own_Fin p e below s _ _ _ (T46.setTop (mkF m 362 #[.val (.int p1), .val (.int p2), .val (.int p3), .val (.int p4), .val (.long q5), .second, .val (.int (3 : Int32)), .val (.int su), .val (.int rr), .val (.int cp), .val (.ref b27), .val (.int t)] []))
        refine own_Fin.step (fun _ => XS.aload X46.here hx rfl (hb hby at_362) rfl rfl) ?_
        show own_Fin p e below s _ _ _ (T46.setTop (mkF m 364 #[.val (.int p1), .val (.int p2), .val (.int p3), .val (.int p4), .val (.long q5), .second, .val (.int (3 : Int32)), .val (.int su), .val (.int rr), .val (.int cp), .val (.ref b27), .val (.int t)] [(.ref b27)]))
        refine own_Fin.step (fun _ => XS.iload X46.here hx rfl (hb hby at_364) rfl) ?_
        show own_Fin p e below s _ _ _ (T46.setTop (mkF m 366 #[.val (.int p1), .val (.int p2), .val (.int p3), .val (.int p4), .val (.long q5), .second, .val (.int (3 : Int32)), .val (.int su), .val (.int rr), .val (.int cp), .val (.ref b27), .val (.int t)] [(.int t), (.ref b27)]))
        refine own_Fin.step (fun _ => XS.iload X46.here hx rfl (hb hby at_366) rfl) ?_
        show own_Fin p e below s _ _ _ (T46.setTop (mkF m 368 #[.val (.int p1), .val (.int p2), .val (.int p3), .val (.int p4), .val (.long q5), .second, .val (.int (3 : Int32)), .val (.int su), .val (.int rr), .val (.int cp), .val (.ref b27), .val (.int t)] [(.int (3 : Int32)), (.int t), (.ref b27)]))
        refine own_Fin.step (fun _ => XS.iload X46.here hx rfl (hb hby at_368) rfl) ?_
        show own_Fin p e below s _ _ _ (T46.setTop (mkF m 370 #[.val (.int p1), .val (.int p2), .val (.int p3), .val (.int p4), .val (.long q5), .second, .val (.int (3 : Int32)), .val (.int su), .val (.int rr), .val (.int cp), .val (.ref b27), .val (.int t)] [(.int su), (.int (3 : Int32)), (.int t), (.ref b27)]))
        obtain ⟨_, T48, L48, X48, ⟨rfl, N48q, e48⟩, st48⟩ := own_callS X46 hx hZ hown (own_w hw 2 rfl) (own_w hw 3 rfl) (own_w hw 4 rfl) (own_w hw 5 rfl) (by decide) (rm3b l Z a0 hw b27 t su k27 (own_upd (own_upd (own_upd (own_upd (own_upd (own_upd (own_upd (own_upd (own_upd (fun _ => (0 : Int32)) ((0 : Int32)).toNatClampNeg (nar .byte ((q5.toInt32).toInt8.toInt32))) ((1 : Int32)).toNatClampNeg (nar .byte ((((q5.toUInt64 >>> ((8 : Int32) &&& 0x3f).toInt64.toUInt64).toInt64).toInt32).toInt8.toInt32))) ((2 : Int32)).toNatClampNeg (nar .byte ((((q5.toUInt64 >>> ((16 : Int32) &&& 0x3f).toInt64.toUInt64).toInt64).toInt32).toInt8.toInt32))) ((3 : Int32)).toNatClampNeg (nar .byte ((((q5.toUInt64 >>> ((24 : Int32) &&& 0x3f).toInt64.toUInt64).toInt64).toInt32).toInt8.toInt32))) ((4 : Int32)).toNatClampNeg (nar .byte ((((q5.toUInt64 >>> ((32 : Int32) &&& 0x3f).toInt64.toUInt64).toInt64).toInt32).toInt8.toInt32))) ((5 : Int32)).toNatClampNeg (nar .byte ((((q5.toUInt64 >>> ((40 : Int32) &&& 0x3f).toInt64.toUInt64).toInt64).toInt32).toInt8.toInt32))) (t).toNatClampNeg (nar .byte (((224 : Int32) ||| ((cp.toUInt32 >>> ((12 : Int32) &&& 31).toUInt32).toInt32)).toInt8.toInt32))) ((t + (1 : Int32))).toNatClampNeg (nar .byte (((128 : Int32) ||| (((cp.toUInt32 >>> ((6 : Int32) &&& 31).toUInt32).toInt32) &&& (63 : Int32))).toInt8.toInt32))) ((t + (2 : Int32))).toNatClampNeg (nar .byte (((128 : Int32) ||| (cp &&& (63 : Int32))).toInt8.toInt32))) (nar .byte (((224 : Int32) ||| ((cp.toUInt32 >>> ((12 : Int32) &&& 31).toUInt32).toInt32)).toInt8.toInt32)) (nar .byte (((128 : Int32) ||| (((cp.toUInt32 >>> ((6 : Int32) &&& 31).toUInt32).toInt32) &&& (63 : Int32))).toInt8.toInt32)) (nar .byte (((128 : Int32) ||| (cp &&& (63 : Int32))).toInt8.toInt32)) cp h46 n0 Z46 V46 (own_ix0 ht (by decide)) (own_ix (i := 1) (iv := 1) (by decide) ht (by decide) (by decide)).1 (own_ix (i := 2) (iv := 2) (by decide) ht (by decide) (by decide)).1 (by simp [own_upd, nx1, nx2]) (by simp [own_upd, nx1, nx2]) (by simp [own_upd, nx1, nx2]) (own_dec3 cp hcp.1 hcp.2).2.1 (own_dec3 cp hcp.1 hcp.2).2.2  (own_dec3 cp hcp.1 hcp.2).1 (own_nlt (d := 2048) (by decide) hcp.1) hsr) (by decide) (by decide) e46 (W := 0) (g := (mkF m 370 #[.val (.int p1), .val (.int p2), .val (.int p3), .val (.int p4), .val (.long q5), .second, .val (.int (3 : Int32)), .val (.int su), .val (.int rr), .val (.int cp), .val (.ref b27), .val (.int t)] [(.int su), (.int (3 : Int32)), (.int t), (.ref b27)])) rfl (by rw [hml]; rfl) (argsL := [(.ref b27), (.int t), (.int (3 : Int32)), (.int su)]) (rest := []) (lenOf pd_2 rfl) rfl rfl (by show 2 * 0 + _ ≤ _; exact Nat.le_of_eq rfl) (hb hby at_370) (by decide) (by decide)
        have N48 := Fr.app N46 N48q
        refine own_Fin.step st48 ?_
        show own_Fin p e below s _ _ _ (T48.setTop (mkF m 373 #[.val (.int p1), .val (.int p2), .val (.int p3), .val (.int p4), .val (.long q5), .second, .val (.int (3 : Int32)), .val (.int su), .val (.int rr), .val (.int cp), .val (.ref b27), .val (.int t)] [(.int cp)]))
        refine own_Fin.step (fun _ => XS.iload X48.here hx rfl (hb hby at_373) rfl) ?_
        show own_Fin p e below s _ _ _ (T48.setTop (mkF m 375 #[.val (.int p1), .val (.int p2), .val (.int p3), .val (.int p4), .val (.long q5), .second, .val (.int (3 : Int32)), .val (.int su), .val (.int rr), .val (.int cp), .val (.ref b27), .val (.int t)] [(.int cp), (.int cp)]))
        refine own_Fin.step (fun _ => XS.icmpNo X48.here hx rfl (hb hby at_375) rfl (XT.ii_ne_f (rfl : cp = cp))) ?_
        show own_Fin p e below s _ _ _ (T48.setTop (mkF m 378 #[.val (.int p1), .val (.int p2), .val (.int p3), .val (.int p4), .val (.long q5), .second, .val (.int (3 : Int32)), .val (.int su), .val (.int rr), .val (.int cp), .val (.ref b27), .val (.int t)] []))
        refine own_Fin.step (fun _ => XS.iconst X48.here hx rfl (hb hby at_378)) ?_
        show own_Fin p e below s _ _ _ (T48.setTop (mkF m 379 #[.val (.int p1), .val (.int p2), .val (.int p3), .val (.int p4), .val (.long q5), .second, .val (.int (3 : Int32)), .val (.int su), .val (.int rr), .val (.int cp), .val (.ref b27), .val (.int t)] [(.int (1 : Int32))]))
        refine own_Fin.step (fun _ => XS.goto X48.here hx rfl (pc0 := 379) (pc' := 383) rfl (hb hby at_379) (by decide) (by decide)) ?_
        show own_Fin p e below s _ _ _ (T48.setTop (mkF m 383 #[.val (.int p1), .val (.int p2), .val (.int p3), .val (.int p4), .val (.long q5), .second, .val (.int (3 : Int32)), .val (.int su), .val (.int rr), .val (.int cp), .val (.ref b27), .val (.int t)] [(.int (1 : Int32))]))
        exact own_retN X48 hx hlk (t := .boolean) hret (by simp) (hb hby at_383) ⟨rfl, N48⟩ (by decide) (by decide)
      ·
        refine own_Fin.step (fun _ => XS.icmpNo X0.here hx rfl (hb hby at_76) rfl (XT.ii_lt_f hc76_26)) ?_
        show own_Fin p e below s _ _ _ (s₁.setTop (mkF m 79 #[.val (.int p1), .val (.int p2), .val (.int p3), .val (.int p4), .val (.long q5), .second, .val (.int (3 : Int32)), .val (.int su), .val (.int rr), .val (.int cp), .unset, .unset] []))
        refine own_Fin.step (fun _ => XS.iload X0.here hx rfl (hb hby at_79) rfl) ?_
        show own_Fin p e below s _ _ _ (s₁.setTop (mkF m 81 #[.val (.int p1), .val (.int p2), .val (.int p3), .val (.int p4), .val (.long q5), .second, .val (.int (3 : Int32)), .val (.int su), .val (.int rr), .val (.int cp), .unset, .unset] [(.int cp)]))
        refine own_Fin.step (X0.ldcInt hx hown (mvT hZ (own_w hw 20 rfl)) (g := (mkF m 81 #[.val (.int p1), .val (.int p2), .val (.int p3), .val (.int p4), .val (.long q5), .second, .val (.int (3 : Int32)), .val (.int su), .val (.int rr), .val (.int cp), .unset, .unset] [(.int cp)])) rfl (hb hby at_81)) ?_
        show own_Fin p e below s _ _ _ (s₁.setTop (mkF m 83 #[.val (.int p1), .val (.int p2), .val (.int p3), .val (.int p4), .val (.long q5), .second, .val (.int (3 : Int32)), .val (.int su), .val (.int rr), .val (.int cp), .unset, .unset] [(.int (57343 : Int32)), (.int cp)]))
        by_cases hc83_49 : (57343 : Int32) < cp
        ·
          refine own_Fin.step (fun _ => XS.icmpYes X0.here hx rfl (pc0 := 83) (pc' := 107) rfl (hb hby at_83) rfl (XT.ii_gt_t hc83_49) (by decide) (by decide)) ?_
          show own_Fin p e below s _ _ _ (s₁.setTop (mkF m 107 #[.val (.int p1), .val (.int p2), .val (.int p3), .val (.int p4), .val (.long q5), .second, .val (.int (3 : Int32)), .val (.int su), .val (.int rr), .val (.int cp), .unset, .unset] []))
          have hsr : su = 0 → own_sur (cp.toUInt32.toUInt16.toUInt32.toInt32) = 0 := fun _ => own_nosur ⟨by omega, by omega⟩ (Or.inr (own_nlt (d := 57344) (by decide) (by
            have g1 := hc83_49
            rw [Int32.lt_iff_toInt_lt] at g1
            have q3 : (57343 : Int32).toInt = 57343 := by decide
            omega)))
          refine own_Fin.step (fun _ => XS.bipush X0.here hx rfl (hb hby at_107)) ?_
          show own_Fin p e below s _ _ _ (s₁.setTop (mkF m 109 #[.val (.int p1), .val (.int p2), .val (.int p3), .val (.int p4), .val (.long q5), .second, .val (.int (3 : Int32)), .val (.int su), .val (.int rr), .val (.int cp), .unset, .unset] [(.int (6 : Int32))]))
          obtain ⟨T50, h50, k50, b50, X50, e50, E50, g50, V50, st50⟩ := own_newA X0 hx hZ (own_w hw 1 rfl) e0 (ty := .byte) (dv := (.int (0 : Int32))) rfl rfl (g := (mkF m 109 #[.val (.int p1), .val (.int p2), .val (.int p3), .val (.int p4), .val (.long q5), .second, .val (.int (3 : Int32)), .val (.int su), .val (.int rr), .val (.int cp), .unset, .unset] [(.int (6 : Int32))])) rfl (hb hby at_109) rfl (by decide) (cap := 6) (by decide) (by decide) (by decide) (by decide) (6)
          have ge51 : n0 ≤ b50 := Nat.le_trans Z0 (Nat.le_of_eq g50.symm)
          have Z50 : n0 ≤ h50.size := Nat.le_trans Z0 E50.1
          have V50' : Arv Z h50 b50 k50 .byte (6 : Int32) [(.int (0 : Int32)), (.int (0 : Int32)), (.int (0 : Int32)), (.int (0 : Int32)), (.int (0 : Int32)), (.int (0 : Int32))] (.int (0 : Int32)) := V50
          refine own_Fin.step st50 ?_
          show own_Fin p e below s _ _ _ (T50.setTop (mkF m 111 #[.val (.int p1), .val (.int p2), .val (.int p3), .val (.int p4), .val (.long q5), .second, .val (.int (3 : Int32)), .val (.int su), .val (.int rr), .val (.int cp), .unset, .unset] [(.ref b50)]))
          have Vf52 := own_Arf.of (N := 6) V50'
          refine own_Fin.step (fun _ => XS.astore X50.here hx rfl (hb hby at_111) rfl rfl (l' := #[.val (.int p1), .val (.int p2), .val (.int p3), .val (.int p4), .val (.long q5), .second, .val (.int (3 : Int32)), .val (.int su), .val (.int rr), .val (.int cp), .val (.ref b50), .unset]) rfl) ?_
          show own_Fin p e below s _ _ _ (T50.setTop (mkF m 113 #[.val (.int p1), .val (.int p2), .val (.int p3), .val (.int p4), .val (.long q5), .second, .val (.int (3 : Int32)), .val (.int su), .val (.int rr), .val (.int cp), .val (.ref b50), .unset] []))
          refine own_Fin.step (fun _ => XS.aload X50.here hx rfl (hb hby at_113) rfl rfl) ?_
          show own_Fin p e below s _ _ _ (T50.setTop (mkF m 115 #[.val (.int p1), .val (.int p2), .val (.int p3), .val (.int p4), .val (.long q5), .second, .val (.int (3 : Int32)), .val (.int su), .val (.int rr), .val (.int cp), .val (.ref b50), .unset] [(.ref b50)]))
          refine own_Fin.step (fun _ => XS.iconst X50.here hx rfl (hb hby at_115)) ?_
          show own_Fin p e below s _ _ _ (T50.setTop (mkF m 116 #[.val (.int p1), .val (.int p2), .val (.int p3), .val (.int p4), .val (.long q5), .second, .val (.int (3 : Int32)), .val (.int su), .val (.int rr), .val (.int cp), .val (.ref b50), .unset] [(.int (0 : Int32)), (.ref b50)]))
          refine own_Fin.step (fun _ => XS.lload X50.here hx rfl (hb hby at_116) rfl) ?_
          show own_Fin p e below s _ _ _ (T50.setTop (mkF m 118 #[.val (.int p1), .val (.int p2), .val (.int p3), .val (.int p4), .val (.long q5), .second, .val (.int (3 : Int32)), .val (.int su), .val (.int rr), .val (.int cp), .val (.ref b50), .unset] [(.long q5), (.int (0 : Int32)), (.ref b50)]))
          refine own_Fin.step (fun _ => XS.l2i X50.here hx rfl (hb hby at_118) rfl) ?_
          show own_Fin p e below s _ _ _ (T50.setTop (mkF m 119 #[.val (.int p1), .val (.int p2), .val (.int p3), .val (.int p4), .val (.long q5), .second, .val (.int (3 : Int32)), .val (.int su), .val (.int rr), .val (.int cp), .val (.ref b50), .unset] [(.int (q5.toInt32)), (.int (0 : Int32)), (.ref b50)]))
          refine own_Fin.step (fun _ => XS.i2b X50.here hx rfl (hb hby at_119) rfl) ?_
          show own_Fin p e below s _ _ _ (T50.setTop (mkF m 120 #[.val (.int p1), .val (.int p2), .val (.int p3), .val (.int p4), .val (.long q5), .second, .val (.int (3 : Int32)), .val (.int su), .val (.int rr), .val (.int cp), .val (.ref b50), .unset] [(.int ((q5.toInt32).toInt8.toInt32)), (.int (0 : Int32)), (.ref b50)]))
          obtain ⟨T53, h53, X53, e53, V53, W53, st53⟩ := own_stFB X50 hx hZ e50 Vf52 (j := (0 : Int32)) ⟨by decide, by decide⟩ (g := (mkF m 120 #[.val (.int p1), .val (.int p2), .val (.int p3), .val (.int p4), .val (.long q5), .second, .val (.int (3 : Int32)), .val (.int su), .val (.int rr), .val (.int cp), .val (.ref b50), .unset] [(.int ((q5.toInt32).toInt8.toInt32)), (.int (0 : Int32)), (.ref b50)])) rfl rfl (hb hby at_120)
          have N53 := Fr.snoc X53 N0 ge51
          have Z53 : n0 ≤ h53.size := Nat.le_trans Z50 (Nat.le_of_eq W53.size.symm)
          refine own_Fin.step st53 ?_
          show own_Fin p e below s _ _ _ (T53.setTop (mkF m 121 #[.val (.int p1), .val (.int p2), .val (.int p3), .val (.int p4), .val (.long q5), .second, .val (.int (3 : Int32)), .val (.int su), .val (.int rr), .val (.int cp), .val (.ref b50), .unset] []))
          refine own_Fin.step (fun _ => XS.aload X53.here hx rfl (hb hby at_121) rfl rfl) ?_
          show own_Fin p e below s _ _ _ (T53.setTop (mkF m 123 #[.val (.int p1), .val (.int p2), .val (.int p3), .val (.int p4), .val (.long q5), .second, .val (.int (3 : Int32)), .val (.int su), .val (.int rr), .val (.int cp), .val (.ref b50), .unset] [(.ref b50)]))
          refine own_Fin.step (fun _ => XS.iconst X53.here hx rfl (hb hby at_123)) ?_
          show own_Fin p e below s _ _ _ (T53.setTop (mkF m 124 #[.val (.int p1), .val (.int p2), .val (.int p3), .val (.int p4), .val (.long q5), .second, .val (.int (3 : Int32)), .val (.int su), .val (.int rr), .val (.int cp), .val (.ref b50), .unset] [(.int (1 : Int32)), (.ref b50)]))
          refine own_Fin.step (fun _ => XS.lload X53.here hx rfl (hb hby at_124) rfl) ?_
          show own_Fin p e below s _ _ _ (T53.setTop (mkF m 126 #[.val (.int p1), .val (.int p2), .val (.int p3), .val (.int p4), .val (.long q5), .second, .val (.int (3 : Int32)), .val (.int su), .val (.int rr), .val (.int cp), .val (.ref b50), .unset] [(.long q5), (.int (1 : Int32)), (.ref b50)]))
          refine own_Fin.step (fun _ => XS.bipush X53.here hx rfl (hb hby at_126)) ?_
          show own_Fin p e below s _ _ _ (T53.setTop (mkF m 128 #[.val (.int p1), .val (.int p2), .val (.int p3), .val (.int p4), .val (.long q5), .second, .val (.int (3 : Int32)), .val (.int su), .val (.int rr), .val (.int cp), .val (.ref b50), .unset] [(.int (8 : Int32)), (.long q5), (.int (1 : Int32)), (.ref b50)]))
          refine own_Fin.step (fun _ => XS.lushr X53.here hx rfl (hb hby at_128) rfl) ?_
          show own_Fin p e below s _ _ _ (T53.setTop (mkF m 129 #[.val (.int p1), .val (.int p2), .val (.int p3), .val (.int p4), .val (.long q5), .second, .val (.int (3 : Int32)), .val (.int su), .val (.int rr), .val (.int cp), .val (.ref b50), .unset] [(.long ((q5.toUInt64 >>> ((8 : Int32) &&& 0x3f).toInt64.toUInt64).toInt64)), (.int (1 : Int32)), (.ref b50)]))
          refine own_Fin.step (fun _ => XS.l2i X53.here hx rfl (hb hby at_129) rfl) ?_
          show own_Fin p e below s _ _ _ (T53.setTop (mkF m 130 #[.val (.int p1), .val (.int p2), .val (.int p3), .val (.int p4), .val (.long q5), .second, .val (.int (3 : Int32)), .val (.int su), .val (.int rr), .val (.int cp), .val (.ref b50), .unset] [(.int (((q5.toUInt64 >>> ((8 : Int32) &&& 0x3f).toInt64.toUInt64).toInt64).toInt32)), (.int (1 : Int32)), (.ref b50)]))
          refine own_Fin.step (fun _ => XS.i2b X53.here hx rfl (hb hby at_130) rfl) ?_
          show own_Fin p e below s _ _ _ (T53.setTop (mkF m 131 #[.val (.int p1), .val (.int p2), .val (.int p3), .val (.int p4), .val (.long q5), .second, .val (.int (3 : Int32)), .val (.int su), .val (.int rr), .val (.int cp), .val (.ref b50), .unset] [(.int ((((q5.toUInt64 >>> ((8 : Int32) &&& 0x3f).toInt64.toUInt64).toInt64).toInt32).toInt8.toInt32)), (.int (1 : Int32)), (.ref b50)]))
          obtain ⟨T55, h55, X55, e55, V55, W55, st55⟩ := own_stFB X53 hx hZ e53 V53 (j := (1 : Int32)) ⟨by decide, by decide⟩ (g := (mkF m 131 #[.val (.int p1), .val (.int p2), .val (.int p3), .val (.int p4), .val (.long q5), .second, .val (.int (3 : Int32)), .val (.int su), .val (.int rr), .val (.int cp), .val (.ref b50), .unset] [(.int ((((q5.toUInt64 >>> ((8 : Int32) &&& 0x3f).toInt64.toUInt64).toInt64).toInt32).toInt8.toInt32)), (.int (1 : Int32)), (.ref b50)])) rfl rfl (hb hby at_131)
          have N55 := Fr.snoc X55 N53 ge51
          have Z55 : n0 ≤ h55.size := Nat.le_trans Z53 (Nat.le_of_eq W55.size.symm)
          refine own_Fin.step st55 ?_
          show own_Fin p e below s _ _ _ (T55.setTop (mkF m 132 #[.val (.int p1), .val (.int p2), .val (.int p3), .val (.int p4), .val (.long q5), .second, .val (.int (3 : Int32)), .val (.int su), .val (.int rr), .val (.int cp), .val (.ref b50), .unset] []))
          refine own_Fin.step (fun _ => XS.aload X55.here hx rfl (hb hby at_132) rfl rfl) ?_
          show own_Fin p e below s _ _ _ (T55.setTop (mkF m 134 #[.val (.int p1), .val (.int p2), .val (.int p3), .val (.int p4), .val (.long q5), .second, .val (.int (3 : Int32)), .val (.int su), .val (.int rr), .val (.int cp), .val (.ref b50), .unset] [(.ref b50)]))
          refine own_Fin.step (fun _ => XS.iconst X55.here hx rfl (hb hby at_134)) ?_
          show own_Fin p e below s _ _ _ (T55.setTop (mkF m 135 #[.val (.int p1), .val (.int p2), .val (.int p3), .val (.int p4), .val (.long q5), .second, .val (.int (3 : Int32)), .val (.int su), .val (.int rr), .val (.int cp), .val (.ref b50), .unset] [(.int (2 : Int32)), (.ref b50)]))
          refine own_Fin.step (fun _ => XS.lload X55.here hx rfl (hb hby at_135) rfl) ?_
          show own_Fin p e below s _ _ _ (T55.setTop (mkF m 137 #[.val (.int p1), .val (.int p2), .val (.int p3), .val (.int p4), .val (.long q5), .second, .val (.int (3 : Int32)), .val (.int su), .val (.int rr), .val (.int cp), .val (.ref b50), .unset] [(.long q5), (.int (2 : Int32)), (.ref b50)]))
          refine own_Fin.step (fun _ => XS.bipush X55.here hx rfl (hb hby at_137)) ?_
          show own_Fin p e below s _ _ _ (T55.setTop (mkF m 139 #[.val (.int p1), .val (.int p2), .val (.int p3), .val (.int p4), .val (.long q5), .second, .val (.int (3 : Int32)), .val (.int su), .val (.int rr), .val (.int cp), .val (.ref b50), .unset] [(.int (16 : Int32)), (.long q5), (.int (2 : Int32)), (.ref b50)]))
          refine own_Fin.step (fun _ => XS.lushr X55.here hx rfl (hb hby at_139) rfl) ?_
          show own_Fin p e below s _ _ _ (T55.setTop (mkF m 140 #[.val (.int p1), .val (.int p2), .val (.int p3), .val (.int p4), .val (.long q5), .second, .val (.int (3 : Int32)), .val (.int su), .val (.int rr), .val (.int cp), .val (.ref b50), .unset] [(.long ((q5.toUInt64 >>> ((16 : Int32) &&& 0x3f).toInt64.toUInt64).toInt64)), (.int (2 : Int32)), (.ref b50)]))
          refine own_Fin.step (fun _ => XS.l2i X55.here hx rfl (hb hby at_140) rfl) ?_
          show own_Fin p e below s _ _ _ (T55.setTop (mkF m 141 #[.val (.int p1), .val (.int p2), .val (.int p3), .val (.int p4), .val (.long q5), .second, .val (.int (3 : Int32)), .val (.int su), .val (.int rr), .val (.int cp), .val (.ref b50), .unset] [(.int (((q5.toUInt64 >>> ((16 : Int32) &&& 0x3f).toInt64.toUInt64).toInt64).toInt32)), (.int (2 : Int32)), (.ref b50)]))
          refine own_Fin.step (fun _ => XS.i2b X55.here hx rfl (hb hby at_141) rfl) ?_
          show own_Fin p e below s _ _ _ (T55.setTop (mkF m 142 #[.val (.int p1), .val (.int p2), .val (.int p3), .val (.int p4), .val (.long q5), .second, .val (.int (3 : Int32)), .val (.int su), .val (.int rr), .val (.int cp), .val (.ref b50), .unset] [(.int ((((q5.toUInt64 >>> ((16 : Int32) &&& 0x3f).toInt64.toUInt64).toInt64).toInt32).toInt8.toInt32)), (.int (2 : Int32)), (.ref b50)]))
          obtain ⟨T57, h57, X57, e57, V57, W57, st57⟩ := own_stFB X55 hx hZ e55 V55 (j := (2 : Int32)) ⟨by decide, by decide⟩ (g := (mkF m 142 #[.val (.int p1), .val (.int p2), .val (.int p3), .val (.int p4), .val (.long q5), .second, .val (.int (3 : Int32)), .val (.int su), .val (.int rr), .val (.int cp), .val (.ref b50), .unset] [(.int ((((q5.toUInt64 >>> ((16 : Int32) &&& 0x3f).toInt64.toUInt64).toInt64).toInt32).toInt8.toInt32)), (.int (2 : Int32)), (.ref b50)])) rfl rfl (hb hby at_142)
          have N57 := Fr.snoc X57 N55 ge51
          have Z57 : n0 ≤ h57.size := Nat.le_trans Z55 (Nat.le_of_eq W57.size.symm)
          refine own_Fin.step st57 ?_
          show own_Fin p e below s _ _ _ (T57.setTop (mkF m 143 #[.val (.int p1), .val (.int p2), .val (.int p3), .val (.int p4), .val (.long q5), .second, .val (.int (3 : Int32)), .val (.int su), .val (.int rr), .val (.int cp), .val (.ref b50), .unset] []))
          refine own_Fin.step (fun _ => XS.aload X57.here hx rfl (hb hby at_143) rfl rfl) ?_
          show own_Fin p e below s _ _ _ (T57.setTop (mkF m 145 #[.val (.int p1), .val (.int p2), .val (.int p3), .val (.int p4), .val (.long q5), .second, .val (.int (3 : Int32)), .val (.int su), .val (.int rr), .val (.int cp), .val (.ref b50), .unset] [(.ref b50)]))
          refine own_Fin.step (fun _ => XS.iconst X57.here hx rfl (hb hby at_145)) ?_
          show own_Fin p e below s _ _ _ (T57.setTop (mkF m 146 #[.val (.int p1), .val (.int p2), .val (.int p3), .val (.int p4), .val (.long q5), .second, .val (.int (3 : Int32)), .val (.int su), .val (.int rr), .val (.int cp), .val (.ref b50), .unset] [(.int (3 : Int32)), (.ref b50)]))
          refine own_Fin.step (fun _ => XS.lload X57.here hx rfl (hb hby at_146) rfl) ?_
          show own_Fin p e below s _ _ _ (T57.setTop (mkF m 148 #[.val (.int p1), .val (.int p2), .val (.int p3), .val (.int p4), .val (.long q5), .second, .val (.int (3 : Int32)), .val (.int su), .val (.int rr), .val (.int cp), .val (.ref b50), .unset] [(.long q5), (.int (3 : Int32)), (.ref b50)]))
          refine own_Fin.step (fun _ => XS.bipush X57.here hx rfl (hb hby at_148)) ?_
          show own_Fin p e below s _ _ _ (T57.setTop (mkF m 150 #[.val (.int p1), .val (.int p2), .val (.int p3), .val (.int p4), .val (.long q5), .second, .val (.int (3 : Int32)), .val (.int su), .val (.int rr), .val (.int cp), .val (.ref b50), .unset] [(.int (24 : Int32)), (.long q5), (.int (3 : Int32)), (.ref b50)]))
          refine own_Fin.step (fun _ => XS.lushr X57.here hx rfl (hb hby at_150) rfl) ?_
          show own_Fin p e below s _ _ _ (T57.setTop (mkF m 151 #[.val (.int p1), .val (.int p2), .val (.int p3), .val (.int p4), .val (.long q5), .second, .val (.int (3 : Int32)), .val (.int su), .val (.int rr), .val (.int cp), .val (.ref b50), .unset] [(.long ((q5.toUInt64 >>> ((24 : Int32) &&& 0x3f).toInt64.toUInt64).toInt64)), (.int (3 : Int32)), (.ref b50)]))
          refine own_Fin.step (fun _ => XS.l2i X57.here hx rfl (hb hby at_151) rfl) ?_
          show own_Fin p e below s _ _ _ (T57.setTop (mkF m 152 #[.val (.int p1), .val (.int p2), .val (.int p3), .val (.int p4), .val (.long q5), .second, .val (.int (3 : Int32)), .val (.int su), .val (.int rr), .val (.int cp), .val (.ref b50), .unset] [(.int (((q5.toUInt64 >>> ((24 : Int32) &&& 0x3f).toInt64.toUInt64).toInt64).toInt32)), (.int (3 : Int32)), (.ref b50)]))
          refine own_Fin.step (fun _ => XS.i2b X57.here hx rfl (hb hby at_152) rfl) ?_
          show own_Fin p e below s _ _ _ (T57.setTop (mkF m 153 #[.val (.int p1), .val (.int p2), .val (.int p3), .val (.int p4), .val (.long q5), .second, .val (.int (3 : Int32)), .val (.int su), .val (.int rr), .val (.int cp), .val (.ref b50), .unset] [(.int ((((q5.toUInt64 >>> ((24 : Int32) &&& 0x3f).toInt64.toUInt64).toInt64).toInt32).toInt8.toInt32)), (.int (3 : Int32)), (.ref b50)]))
          obtain ⟨T59, h59, X59, e59, V59, W59, st59⟩ := own_stFB X57 hx hZ e57 V57 (j := (3 : Int32)) ⟨by decide, by decide⟩ (g := (mkF m 153 #[.val (.int p1), .val (.int p2), .val (.int p3), .val (.int p4), .val (.long q5), .second, .val (.int (3 : Int32)), .val (.int su), .val (.int rr), .val (.int cp), .val (.ref b50), .unset] [(.int ((((q5.toUInt64 >>> ((24 : Int32) &&& 0x3f).toInt64.toUInt64).toInt64).toInt32).toInt8.toInt32)), (.int (3 : Int32)), (.ref b50)])) rfl rfl (hb hby at_153)
          have N59 := Fr.snoc X59 N57 ge51
          have Z59 : n0 ≤ h59.size := Nat.le_trans Z57 (Nat.le_of_eq W59.size.symm)
          refine own_Fin.step st59 ?_
          show own_Fin p e below s _ _ _ (T59.setTop (mkF m 154 #[.val (.int p1), .val (.int p2), .val (.int p3), .val (.int p4), .val (.long q5), .second, .val (.int (3 : Int32)), .val (.int su), .val (.int rr), .val (.int cp), .val (.ref b50), .unset] []))
          refine own_Fin.step (fun _ => XS.aload X59.here hx rfl (hb hby at_154) rfl rfl) ?_
          show own_Fin p e below s _ _ _ (T59.setTop (mkF m 156 #[.val (.int p1), .val (.int p2), .val (.int p3), .val (.int p4), .val (.long q5), .second, .val (.int (3 : Int32)), .val (.int su), .val (.int rr), .val (.int cp), .val (.ref b50), .unset] [(.ref b50)]))
          refine own_Fin.step (fun _ => XS.iconst X59.here hx rfl (hb hby at_156)) ?_
          show own_Fin p e below s _ _ _ (T59.setTop (mkF m 157 #[.val (.int p1), .val (.int p2), .val (.int p3), .val (.int p4), .val (.long q5), .second, .val (.int (3 : Int32)), .val (.int su), .val (.int rr), .val (.int cp), .val (.ref b50), .unset] [(.int (4 : Int32)), (.ref b50)]))
          refine own_Fin.step (fun _ => XS.lload X59.here hx rfl (hb hby at_157) rfl) ?_
          show own_Fin p e below s _ _ _ (T59.setTop (mkF m 159 #[.val (.int p1), .val (.int p2), .val (.int p3), .val (.int p4), .val (.long q5), .second, .val (.int (3 : Int32)), .val (.int su), .val (.int rr), .val (.int cp), .val (.ref b50), .unset] [(.long q5), (.int (4 : Int32)), (.ref b50)]))
          refine own_Fin.step (fun _ => XS.bipush X59.here hx rfl (hb hby at_159)) ?_
          show own_Fin p e below s _ _ _ (T59.setTop (mkF m 161 #[.val (.int p1), .val (.int p2), .val (.int p3), .val (.int p4), .val (.long q5), .second, .val (.int (3 : Int32)), .val (.int su), .val (.int rr), .val (.int cp), .val (.ref b50), .unset] [(.int (32 : Int32)), (.long q5), (.int (4 : Int32)), (.ref b50)]))
          refine own_Fin.step (fun _ => XS.lushr X59.here hx rfl (hb hby at_161) rfl) ?_
          show own_Fin p e below s _ _ _ (T59.setTop (mkF m 162 #[.val (.int p1), .val (.int p2), .val (.int p3), .val (.int p4), .val (.long q5), .second, .val (.int (3 : Int32)), .val (.int su), .val (.int rr), .val (.int cp), .val (.ref b50), .unset] [(.long ((q5.toUInt64 >>> ((32 : Int32) &&& 0x3f).toInt64.toUInt64).toInt64)), (.int (4 : Int32)), (.ref b50)]))
          refine own_Fin.step (fun _ => XS.l2i X59.here hx rfl (hb hby at_162) rfl) ?_
          show own_Fin p e below s _ _ _ (T59.setTop (mkF m 163 #[.val (.int p1), .val (.int p2), .val (.int p3), .val (.int p4), .val (.long q5), .second, .val (.int (3 : Int32)), .val (.int su), .val (.int rr), .val (.int cp), .val (.ref b50), .unset] [(.int (((q5.toUInt64 >>> ((32 : Int32) &&& 0x3f).toInt64.toUInt64).toInt64).toInt32)), (.int (4 : Int32)), (.ref b50)]))
          refine own_Fin.step (fun _ => XS.i2b X59.here hx rfl (hb hby at_163) rfl) ?_
          show own_Fin p e below s _ _ _ (T59.setTop (mkF m 164 #[.val (.int p1), .val (.int p2), .val (.int p3), .val (.int p4), .val (.long q5), .second, .val (.int (3 : Int32)), .val (.int su), .val (.int rr), .val (.int cp), .val (.ref b50), .unset] [(.int ((((q5.toUInt64 >>> ((32 : Int32) &&& 0x3f).toInt64.toUInt64).toInt64).toInt32).toInt8.toInt32)), (.int (4 : Int32)), (.ref b50)]))
          obtain ⟨T61, h61, X61, e61, V61, W61, st61⟩ := own_stFB X59 hx hZ e59 V59 (j := (4 : Int32)) ⟨by decide, by decide⟩ (g := (mkF m 164 #[.val (.int p1), .val (.int p2), .val (.int p3), .val (.int p4), .val (.long q5), .second, .val (.int (3 : Int32)), .val (.int su), .val (.int rr), .val (.int cp), .val (.ref b50), .unset] [(.int ((((q5.toUInt64 >>> ((32 : Int32) &&& 0x3f).toInt64.toUInt64).toInt64).toInt32).toInt8.toInt32)), (.int (4 : Int32)), (.ref b50)])) rfl rfl (hb hby at_164)
          have N61 := Fr.snoc X61 N59 ge51
          have Z61 : n0 ≤ h61.size := Nat.le_trans Z59 (Nat.le_of_eq W61.size.symm)
          refine own_Fin.step st61 ?_
          show own_Fin p e below s _ _ _ (T61.setTop (mkF m 165 #[.val (.int p1), .val (.int p2), .val (.int p3), .val (.int p4), .val (.long q5), .second, .val (.int (3 : Int32)), .val (.int su), .val (.int rr), .val (.int cp), .val (.ref b50), .unset] []))
          refine own_Fin.step (fun _ => XS.aload X61.here hx rfl (hb hby at_165) rfl rfl) ?_
          show own_Fin p e below s _ _ _ (T61.setTop (mkF m 167 #[.val (.int p1), .val (.int p2), .val (.int p3), .val (.int p4), .val (.long q5), .second, .val (.int (3 : Int32)), .val (.int su), .val (.int rr), .val (.int cp), .val (.ref b50), .unset] [(.ref b50)]))
          refine own_Fin.step (fun _ => XS.iconst X61.here hx rfl (hb hby at_167)) ?_
          show own_Fin p e below s _ _ _ (T61.setTop (mkF m 168 #[.val (.int p1), .val (.int p2), .val (.int p3), .val (.int p4), .val (.long q5), .second, .val (.int (3 : Int32)), .val (.int su), .val (.int rr), .val (.int cp), .val (.ref b50), .unset] [(.int (5 : Int32)), (.ref b50)]))
          refine own_Fin.step (fun _ => XS.lload X61.here hx rfl (hb hby at_168) rfl) ?_
          show own_Fin p e below s _ _ _ (T61.setTop (mkF m 170 #[.val (.int p1), .val (.int p2), .val (.int p3), .val (.int p4), .val (.long q5), .second, .val (.int (3 : Int32)), .val (.int su), .val (.int rr), .val (.int cp), .val (.ref b50), .unset] [(.long q5), (.int (5 : Int32)), (.ref b50)]))
          refine own_Fin.step (fun _ => XS.bipush X61.here hx rfl (hb hby at_170)) ?_
          show own_Fin p e below s _ _ _ (T61.setTop (mkF m 172 #[.val (.int p1), .val (.int p2), .val (.int p3), .val (.int p4), .val (.long q5), .second, .val (.int (3 : Int32)), .val (.int su), .val (.int rr), .val (.int cp), .val (.ref b50), .unset] [(.int (40 : Int32)), (.long q5), (.int (5 : Int32)), (.ref b50)]))
          refine own_Fin.step (fun _ => XS.lushr X61.here hx rfl (hb hby at_172) rfl) ?_
          show own_Fin p e below s _ _ _ (T61.setTop (mkF m 173 #[.val (.int p1), .val (.int p2), .val (.int p3), .val (.int p4), .val (.long q5), .second, .val (.int (3 : Int32)), .val (.int su), .val (.int rr), .val (.int cp), .val (.ref b50), .unset] [(.long ((q5.toUInt64 >>> ((40 : Int32) &&& 0x3f).toInt64.toUInt64).toInt64)), (.int (5 : Int32)), (.ref b50)]))
          refine own_Fin.step (fun _ => XS.l2i X61.here hx rfl (hb hby at_173) rfl) ?_
          show own_Fin p e below s _ _ _ (T61.setTop (mkF m 174 #[.val (.int p1), .val (.int p2), .val (.int p3), .val (.int p4), .val (.long q5), .second, .val (.int (3 : Int32)), .val (.int su), .val (.int rr), .val (.int cp), .val (.ref b50), .unset] [(.int (((q5.toUInt64 >>> ((40 : Int32) &&& 0x3f).toInt64.toUInt64).toInt64).toInt32)), (.int (5 : Int32)), (.ref b50)]))
          refine own_Fin.step (fun _ => XS.i2b X61.here hx rfl (hb hby at_174) rfl) ?_
          show own_Fin p e below s _ _ _ (T61.setTop (mkF m 175 #[.val (.int p1), .val (.int p2), .val (.int p3), .val (.int p4), .val (.long q5), .second, .val (.int (3 : Int32)), .val (.int su), .val (.int rr), .val (.int cp), .val (.ref b50), .unset] [(.int ((((q5.toUInt64 >>> ((40 : Int32) &&& 0x3f).toInt64.toUInt64).toInt64).toInt32).toInt8.toInt32)), (.int (5 : Int32)), (.ref b50)]))
          obtain ⟨T63, h63, X63, e63, V63, W63, st63⟩ := own_stFB X61 hx hZ e61 V61 (j := (5 : Int32)) ⟨by decide, by decide⟩ (g := (mkF m 175 #[.val (.int p1), .val (.int p2), .val (.int p3), .val (.int p4), .val (.long q5), .second, .val (.int (3 : Int32)), .val (.int su), .val (.int rr), .val (.int cp), .val (.ref b50), .unset] [(.int ((((q5.toUInt64 >>> ((40 : Int32) &&& 0x3f).toInt64.toUInt64).toInt64).toInt32).toInt8.toInt32)), (.int (5 : Int32)), (.ref b50)])) rfl rfl (hb hby at_175)
          have N63 := Fr.snoc X63 N61 ge51
          have Z63 : n0 ≤ h63.size := Nat.le_trans Z61 (Nat.le_of_eq W63.size.symm)
          refine own_Fin.step st63 ?_
          show own_Fin p e below s _ _ _ (T63.setTop (mkF m 176 #[.val (.int p1), .val (.int p2), .val (.int p3), .val (.int p4), .val (.long q5), .second, .val (.int (3 : Int32)), .val (.int su), .val (.int rr), .val (.int cp), .val (.ref b50), .unset] []))
          refine own_Fin.step (fun _ => XS.iloadN X63.here hx rfl (hb hby at_176) rfl) ?_
          show own_Fin p e below s _ _ _ (T63.setTop (mkF m 177 #[.val (.int p1), .val (.int p2), .val (.int p3), .val (.int p4), .val (.long q5), .second, .val (.int (3 : Int32)), .val (.int su), .val (.int rr), .val (.int cp), .val (.ref b50), .unset] [(.int p4)]))
          refine own_Fin.step (X63.ldcInt hx hown (mvT hZ (own_w hw 0 rfl)) (g := (mkF m 177 #[.val (.int p1), .val (.int p2), .val (.int p3), .val (.int p4), .val (.long q5), .second, .val (.int (3 : Int32)), .val (.int su), .val (.int rr), .val (.int cp), .val (.ref b50), .unset] [(.int p4)])) rfl (hb hby at_177)) ?_
          show own_Fin p e below s _ _ _ (T63.setTop (mkF m 179 #[.val (.int p1), .val (.int p2), .val (.int p3), .val (.int p4), .val (.long q5), .second, .val (.int (3 : Int32)), .val (.int su), .val (.int rr), .val (.int cp), .val (.ref b50), .unset] [(.int (2147483647 : Int32)), (.int p4)]))
          refine own_Fin.step (fun _ => XS.iand X63.here hx rfl (hb hby at_179) rfl) ?_
          show own_Fin p e below s _ _ _ (T63.setTop (mkF m 180 #[.val (.int p1), .val (.int p2), .val (.int p3), .val (.int p4), .val (.long q5), .second, .val (.int (3 : Int32)), .val (.int su), .val (.int rr), .val (.int cp), .val (.ref b50), .unset] [(.int (p4 &&& (2147483647 : Int32)))]))
          refine own_Fin.step (fun _ => XS.bipush X63.here hx rfl (hb hby at_180)) ?_
          show own_Fin p e below s _ _ _ (T63.setTop (mkF m 182 #[.val (.int p1), .val (.int p2), .val (.int p3), .val (.int p4), .val (.long q5), .second, .val (.int (3 : Int32)), .val (.int su), .val (.int rr), .val (.int cp), .val (.ref b50), .unset] [(.int (7 : Int32)), (.int (p4 &&& (2147483647 : Int32)))]))
          refine own_Fin.step (fun _ => XS.iload X63.here hx rfl (hb hby at_182) rfl) ?_
          show own_Fin p e below s _ _ _ (T63.setTop (mkF m 184 #[.val (.int p1), .val (.int p2), .val (.int p3), .val (.int p4), .val (.long q5), .second, .val (.int (3 : Int32)), .val (.int su), .val (.int rr), .val (.int cp), .val (.ref b50), .unset] [(.int (3 : Int32)), (.int (7 : Int32)), (.int (p4 &&& (2147483647 : Int32)))]))
          refine own_Fin.step (fun _ => XS.isub X63.here hx rfl (hb hby at_184) rfl) ?_
          show own_Fin p e below s _ _ _ (T63.setTop (mkF m 185 #[.val (.int p1), .val (.int p2), .val (.int p3), .val (.int p4), .val (.long q5), .second, .val (.int (3 : Int32)), .val (.int su), .val (.int rr), .val (.int cp), .val (.ref b50), .unset] [(.int (4 : Int32)), (.int (p4 &&& (2147483647 : Int32)))]))
          refine own_Fin.step (fun _ => Jvm.RoadKit.iremM X63 hx rfl (hb hby at_185) rfl (by decide)) ?_
          show own_Fin p e below s _ _ _ (T63.setTop (mkF m 186 #[.val (.int p1), .val (.int p2), .val (.int p3), .val (.int p4), .val (.long q5), .second, .val (.int (3 : Int32)), .val (.int su), .val (.int rr), .val (.int cp), .val (.ref b50), .unset] [(.int ((p4 &&& (2147483647 : Int32)) % (4 : Int32)))]))
          generalize ht0 : ((p4 &&& (2147483647 : Int32)) % (4 : Int32)) = t
          have ht : 0 ≤ t.toInt ∧ t.toInt < 4 := ht0 ▸ own_rem (d := 4) (by decide) (own_nn p4) (by decide)
          have nx1 := (own_ix (t := t) (i := 1) (iv := 1) (by decide) ht (by decide) (by decide)).2
          have nx2 := (own_ix (t := t) (i := 2) (iv := 2) (by decide) ht (by decide) (by decide)).2
          refine own_Fin.step (fun _ => XS.istore X63.here hx rfl (hb hby at_186) rfl (l' := #[.val (.int p1), .val (.int p2), .val (.int p3), .val (.int p4), .val (.long q5), .second, .val (.int (3 : Int32)), .val (.int su), .val (.int rr), .val (.int cp), .val (.ref b50), .val (.int t)]) rfl) ?_
          show own_Fin p e below s _ _ _ (T63.setTop (mkF m 188 #[.val (.int p1), .val (.int p2), .val (.int p3), .val (.int p4), .val (.long q5), .second, .val (.int (3 : Int32)), .val (.int su), .val (.int rr), .val (.int cp), .val (.ref b50), .val (.int t)] []))
          refine own_Fin.step (fun _ => XS.iload X63.here hx rfl (hb hby at_188) rfl) ?_
          show own_Fin p e below s _ _ _ (T63.setTop (mkF m 190 #[.val (.int p1), .val (.int p2), .val (.int p3), .val (.int p4), .val (.long q5), .second, .val (.int (3 : Int32)), .val (.int su), .val (.int rr), .val (.int cp), .val (.ref b50), .val (.int t)] [(.int (3 : Int32))]))
          refine own_Fin.step (fun _ => XS.iconst X63.here hx rfl (hb hby at_190)) ?_
          show own_Fin p e below s _ _ _ (T63.setTop (mkF m 191 #[.val (.int p1), .val (.int p2), .val (.int p3), .val (.int p4), .val (.long q5), .second, .val (.int (3 : Int32)), .val (.int su), .val (.int rr), .val (.int cp), .val (.ref b50), .val (.int t)] [(.int (2 : Int32)), (.int (3 : Int32))]))
          refine own_Fin.step (fun _ => XS.icmpYes X63.here hx rfl (pc0 := 191) (pc' := 229) rfl (hb hby at_191) rfl (XT.ii_ne_t (by decide : ¬ ((3 : Int32) = (2 : Int32)))) (by decide) (by decide)) ?_
          show own_Fin p e below s _ _ _ (T63.setTop (mkF m 229 #[.val (.int p1), .val (.int p2), .val (.int p3), .val (.int p4), .val (.long q5), .second, .val (.int (3 : Int32)), .val (.int su), .val (.int rr), .val (.int cp), .val (.ref b50), .val (.int t)] []))
          refine own_Fin.step (fun _ => XS.iload X63.here hx rfl (hb hby at_229) rfl) ?_
          show own_Fin p e below s _ _ _ (T63.setTop (mkF m 231 #[.val (.int p1), .val (.int p2), .val (.int p3), .val (.int p4), .val (.long q5), .second, .val (.int (3 : Int32)), .val (.int su), .val (.int rr), .val (.int cp), .val (.ref b50), .val (.int t)] [(.int (3 : Int32))]))
          refine own_Fin.step (fun _ => XS.iconst X63.here hx rfl (hb hby at_231)) ?_
          show own_Fin p e below s _ _ _ (T63.setTop (mkF m 232 #[.val (.int p1), .val (.int p2), .val (.int p3), .val (.int p4), .val (.long q5), .second, .val (.int (3 : Int32)), .val (.int su), .val (.int rr), .val (.int cp), .val (.ref b50), .val (.int t)] [(.int (3 : Int32)), (.int (3 : Int32))]))
          refine own_Fin.step (fun _ => XS.icmpNo X63.here hx rfl (hb hby at_232) rfl (XT.ii_ne_f (by decide : (3 : Int32) = (3 : Int32)))) ?_
          show own_Fin p e below s _ _ _ (T63.setTop (mkF m 235 #[.val (.int p1), .val (.int p2), .val (.int p3), .val (.int p4), .val (.long q5), .second, .val (.int (3 : Int32)), .val (.int su), .val (.int rr), .val (.int cp), .val (.ref b50), .val (.int t)] []))
          refine own_Fin.step (fun _ => XS.aload X63.here hx rfl (hb hby at_235) rfl rfl) ?_
          show own_Fin p e below s _ _ _ (T63.setTop (mkF m 237 #[.val (.int p1), .val (.int p2), .val (.int p3), .val (.int p4), .val (.long q5), .second, .val (.int (3 : Int32)), .val (.int su), .val (.int rr), .val (.int cp), .val (.ref b50), .val (.int t)] [(.ref b50)]))
          refine own_Fin.step (fun _ => XS.iload X63.here hx rfl (hb hby at_237) rfl) ?_
          show own_Fin p e below s _ _ _ (T63.setTop (mkF m 239 #[.val (.int p1), .val (.int p2), .val (.int p3), .val (.int p4), .val (.long q5), .second, .val (.int (3 : Int32)), .val (.int su), .val (.int rr), .val (.int cp), .val (.ref b50), .val (.int t)] [(.int t), (.ref b50)]))
          refine own_Fin.step (fun _ => XS.sipush X63.here hx rfl (hb hby at_239)) ?_
          show own_Fin p e below s _ _ _ (T63.setTop (mkF m 242 #[.val (.int p1), .val (.int p2), .val (.int p3), .val (.int p4), .val (.long q5), .second, .val (.int (3 : Int32)), .val (.int su), .val (.int rr), .val (.int cp), .val (.ref b50), .val (.int t)] [(.int (224 : Int32)), (.int t), (.ref b50)]))
          refine own_Fin.step (fun _ => XS.iload X63.here hx rfl (hb hby at_242) rfl) ?_
          show own_Fin p e below s _ _ _ (T63.setTop (mkF m 244 #[.val (.int p1), .val (.int p2), .val (.int p3), .val (.int p4), .val (.long q5), .second, .val (.int (3 : Int32)), .val (.int su), .val (.int rr), .val (.int cp), .val (.ref b50), .val (.int t)] [(.int cp), (.int (224 : Int32)), (.int t), (.ref b50)]))
          refine own_Fin.step (fun _ => XS.bipush X63.here hx rfl (hb hby at_244)) ?_
          show own_Fin p e below s _ _ _ (T63.setTop (mkF m 246 #[.val (.int p1), .val (.int p2), .val (.int p3), .val (.int p4), .val (.long q5), .second, .val (.int (3 : Int32)), .val (.int su), .val (.int rr), .val (.int cp), .val (.ref b50), .val (.int t)] [(.int (12 : Int32)), (.int cp), (.int (224 : Int32)), (.int t), (.ref b50)]))
          refine own_Fin.step (fun _ => XS.iushr X63.here hx rfl (hb hby at_246) rfl) ?_
          show own_Fin p e below s _ _ _ (T63.setTop (mkF m 247 #[.val (.int p1), .val (.int p2), .val (.int p3), .val (.int p4), .val (.long q5), .second, .val (.int (3 : Int32)), .val (.int su), .val (.int rr), .val (.int cp), .val (.ref b50), .val (.int t)] [(.int ((cp.toUInt32 >>> ((12 : Int32) &&& 31).toUInt32).toInt32)), (.int (224 : Int32)), (.int t), (.ref b50)]))
          refine own_Fin.step (fun _ => XS.ior X63.here hx rfl (hb hby at_247) rfl) ?_
          show own_Fin p e below s _ _ _ (T63.setTop (mkF m 248 #[.val (.int p1), .val (.int p2), .val (.int p3), .val (.int p4), .val (.long q5), .second, .val (.int (3 : Int32)), .val (.int su), .val (.int rr), .val (.int cp), .val (.ref b50), .val (.int t)] [(.int ((224 : Int32) ||| ((cp.toUInt32 >>> ((12 : Int32) &&& 31).toUInt32).toInt32))), (.int t), (.ref b50)]))
          refine own_Fin.step (fun _ => XS.i2b X63.here hx rfl (hb hby at_248) rfl) ?_
          show own_Fin p e below s _ _ _ (T63.setTop (mkF m 249 #[.val (.int p1), .val (.int p2), .val (.int p3), .val (.int p4), .val (.long q5), .second, .val (.int (3 : Int32)), .val (.int su), .val (.int rr), .val (.int cp), .val (.ref b50), .val (.int t)] [(.int (((224 : Int32) ||| ((cp.toUInt32 >>> ((12 : Int32) &&& 31).toUInt32).toInt32)).toInt8.toInt32)), (.int t), (.ref b50)]))
          obtain ⟨T65, h65, X65, e65, V65, W65, st65⟩ := own_stFB X63 hx hZ e63 V63 (j := t) (own_ix0 ht (by decide)) (g := (mkF m 249 #[.val (.int p1), .val (.int p2), .val (.int p3), .val (.int p4), .val (.long q5), .second, .val (.int (3 : Int32)), .val (.int su), .val (.int rr), .val (.int cp), .val (.ref b50), .val (.int t)] [(.int (((224 : Int32) ||| ((cp.toUInt32 >>> ((12 : Int32) &&& 31).toUInt32).toInt32)).toInt8.toInt32)), (.int t), (.ref b50)])) rfl rfl (hb hby at_249)
          have N65 := Fr.snoc X65 N63 ge51
          have Z65 : n0 ≤ h65.size := Nat.le_trans Z63 (Nat.le_of_eq W65.size.symm)
          refine own_Fin.step st65 ?_
          show own_Fin p e below s _ _ _ (T65.setTop (mkF m 250 #[.val (.int p1), .val (.int p2), .val (.int p3), .val (.int p4), .val (.long q5), .second, .val (.int (3 : Int32)), .val (.int su), .val (.int rr), .val (.int cp), .val (.ref b50), .val (.int t)] []))
          refine own_Fin.step (fun _ => XS.aload X65.here hx rfl (hb hby at_250) rfl rfl) ?_
          show own_Fin p e below s _ _ _ (T65.setTop (mkF m 252 #[.val (.int p1), .val (.int p2), .val (.int p3), .val (.int p4), .val (.long q5), .second, .val (.int (3 : Int32)), .val (.int su), .val (.int rr), .val (.int cp), .val (.ref b50), .val (.int t)] [(.ref b50)]))
          refine own_Fin.step (fun _ => XS.iload X65.here hx rfl (hb hby at_252) rfl) ?_
          show own_Fin p e below s _ _ _ (T65.setTop (mkF m 254 #[.val (.int p1), .val (.int p2), .val (.int p3), .val (.int p4), .val (.long q5), .second, .val (.int (3 : Int32)), .val (.int su), .val (.int rr), .val (.int cp), .val (.ref b50), .val (.int t)] [(.int t), (.ref b50)]))
          refine own_Fin.step (fun _ => XS.iconst X65.here hx rfl (hb hby at_254)) ?_
          show own_Fin p e below s _ _ _ (T65.setTop (mkF m 255 #[.val (.int p1), .val (.int p2), .val (.int p3), .val (.int p4), .val (.long q5), .second, .val (.int (3 : Int32)), .val (.int su), .val (.int rr), .val (.int cp), .val (.ref b50), .val (.int t)] [(.int (1 : Int32)), (.int t), (.ref b50)]))
          refine own_Fin.step (fun _ => XS.iadd X65.here hx rfl (hb hby at_255) rfl) ?_
          show own_Fin p e below s _ _ _ (T65.setTop (mkF m 256 #[.val (.int p1), .val (.int p2), .val (.int p3), .val (.int p4), .val (.long q5), .second, .val (.int (3 : Int32)), .val (.int su), .val (.int rr), .val (.int cp), .val (.ref b50), .val (.int t)] [(.int (t + (1 : Int32))), (.ref b50)]))
          refine own_Fin.step (fun _ => XS.sipush X65.here hx rfl (hb hby at_256)) ?_
          show own_Fin p e below s _ _ _ (T65.setTop (mkF m 259 #[.val (.int p1), .val (.int p2), .val (.int p3), .val (.int p4), .val (.long q5), .second, .val (.int (3 : Int32)), .val (.int su), .val (.int rr), .val (.int cp), .val (.ref b50), .val (.int t)] [(.int (128 : Int32)), (.int (t + (1 : Int32))), (.ref b50)]))
          refine own_Fin.step (fun _ => XS.iload X65.here hx rfl (hb hby at_259) rfl) ?_
          show own_Fin p e below s _ _ _ (T65.setTop (mkF m 261 #[.val (.int p1), .val (.int p2), .val (.int p3), .val (.int p4), .val (.long q5), .second, .val (.int (3 : Int32)), .val (.int su), .val (.int rr), .val (.int cp), .val (.ref b50), .val (.int t)] [(.int cp), (.int (128 : Int32)), (.int (t + (1 : Int32))), (.ref b50)]))
          refine own_Fin.step (fun _ => XS.bipush X65.here hx rfl (hb hby at_261)) ?_
          show own_Fin p e below s _ _ _ (T65.setTop (mkF m 263 #[.val (.int p1), .val (.int p2), .val (.int p3), .val (.int p4), .val (.long q5), .second, .val (.int (3 : Int32)), .val (.int su), .val (.int rr), .val (.int cp), .val (.ref b50), .val (.int t)] [(.int (6 : Int32)), (.int cp), (.int (128 : Int32)), (.int (t + (1 : Int32))), (.ref b50)]))
          refine own_Fin.step (fun _ => XS.iushr X65.here hx rfl (hb hby at_263) rfl) ?_
          show own_Fin p e below s _ _ _ (T65.setTop (mkF m 264 #[.val (.int p1), .val (.int p2), .val (.int p3), .val (.int p4), .val (.long q5), .second, .val (.int (3 : Int32)), .val (.int su), .val (.int rr), .val (.int cp), .val (.ref b50), .val (.int t)] [(.int ((cp.toUInt32 >>> ((6 : Int32) &&& 31).toUInt32).toInt32)), (.int (128 : Int32)), (.int (t + (1 : Int32))), (.ref b50)]))
          refine own_Fin.step (fun _ => XS.bipush X65.here hx rfl (hb hby at_264)) ?_
          show own_Fin p e below s _ _ _ (T65.setTop (mkF m 266 #[.val (.int p1), .val (.int p2), .val (.int p3), .val (.int p4), .val (.long q5), .second, .val (.int (3 : Int32)), .val (.int su), .val (.int rr), .val (.int cp), .val (.ref b50), .val (.int t)] [(.int (63 : Int32)), (.int ((cp.toUInt32 >>> ((6 : Int32) &&& 31).toUInt32).toInt32)), (.int (128 : Int32)), (.int (t + (1 : Int32))), (.ref b50)]))
          refine own_Fin.step (fun _ => XS.iand X65.here hx rfl (hb hby at_266) rfl) ?_
          show own_Fin p e below s _ _ _ (T65.setTop (mkF m 267 #[.val (.int p1), .val (.int p2), .val (.int p3), .val (.int p4), .val (.long q5), .second, .val (.int (3 : Int32)), .val (.int su), .val (.int rr), .val (.int cp), .val (.ref b50), .val (.int t)] [(.int (((cp.toUInt32 >>> ((6 : Int32) &&& 31).toUInt32).toInt32) &&& (63 : Int32))), (.int (128 : Int32)), (.int (t + (1 : Int32))), (.ref b50)]))
          refine own_Fin.step (fun _ => XS.ior X65.here hx rfl (hb hby at_267) rfl) ?_
          show own_Fin p e below s _ _ _ (T65.setTop (mkF m 268 #[.val (.int p1), .val (.int p2), .val (.int p3), .val (.int p4), .val (.long q5), .second, .val (.int (3 : Int32)), .val (.int su), .val (.int rr), .val (.int cp), .val (.ref b50), .val (.int t)] [(.int ((128 : Int32) ||| (((cp.toUInt32 >>> ((6 : Int32) &&& 31).toUInt32).toInt32) &&& (63 : Int32)))), (.int (t + (1 : Int32))), (.ref b50)]))
          refine own_Fin.step (fun _ => XS.i2b X65.here hx rfl (hb hby at_268) rfl) ?_
          show own_Fin p e below s _ _ _ (T65.setTop (mkF m 269 #[.val (.int p1), .val (.int p2), .val (.int p3), .val (.int p4), .val (.long q5), .second, .val (.int (3 : Int32)), .val (.int su), .val (.int rr), .val (.int cp), .val (.ref b50), .val (.int t)] [(.int (((128 : Int32) ||| (((cp.toUInt32 >>> ((6 : Int32) &&& 31).toUInt32).toInt32) &&& (63 : Int32))).toInt8.toInt32)), (.int (t + (1 : Int32))), (.ref b50)]))
          obtain ⟨T67, h67, X67, e67, V67, W67, st67⟩ := own_stFB X65 hx hZ e65 V65 (j := (t + (1 : Int32))) (own_ix (i := 1) (iv := 1) (by decide) ht (by decide) (by decide)).1 (g := (mkF m 269 #[.val (.int p1), .val (.int p2), .val (.int p3), .val (.int p4), .val (.long q5), .second, .val (.int (3 : Int32)), .val (.int su), .val (.int rr), .val (.int cp), .val (.ref b50), .val (.int t)] [(.int (((128 : Int32) ||| (((cp.toUInt32 >>> ((6 : Int32) &&& 31).toUInt32).toInt32) &&& (63 : Int32))).toInt8.toInt32)), (.int (t + (1 : Int32))), (.ref b50)])) rfl rfl (hb hby at_269)
          have N67 := Fr.snoc X67 N65 ge51
          have Z67 : n0 ≤ h67.size := Nat.le_trans Z65 (Nat.le_of_eq W67.size.symm)
          refine own_Fin.step st67 ?_
          show own_Fin p e below s _ _ _ (T67.setTop (mkF m 270 #[.val (.int p1), .val (.int p2), .val (.int p3), .val (.int p4), .val (.long q5), .second, .val (.int (3 : Int32)), .val (.int su), .val (.int rr), .val (.int cp), .val (.ref b50), .val (.int t)] []))
          refine own_Fin.step (fun _ => XS.aload X67.here hx rfl (hb hby at_270) rfl rfl) ?_
          show own_Fin p e below s _ _ _ (T67.setTop (mkF m 272 #[.val (.int p1), .val (.int p2), .val (.int p3), .val (.int p4), .val (.long q5), .second, .val (.int (3 : Int32)), .val (.int su), .val (.int rr), .val (.int cp), .val (.ref b50), .val (.int t)] [(.ref b50)]))
          refine own_Fin.step (fun _ => XS.iload X67.here hx rfl (hb hby at_272) rfl) ?_
          show own_Fin p e below s _ _ _ (T67.setTop (mkF m 274 #[.val (.int p1), .val (.int p2), .val (.int p3), .val (.int p4), .val (.long q5), .second, .val (.int (3 : Int32)), .val (.int su), .val (.int rr), .val (.int cp), .val (.ref b50), .val (.int t)] [(.int t), (.ref b50)]))
          refine own_Fin.step (fun _ => XS.iconst X67.here hx rfl (hb hby at_274)) ?_
          show own_Fin p e below s _ _ _ (T67.setTop (mkF m 275 #[.val (.int p1), .val (.int p2), .val (.int p3), .val (.int p4), .val (.long q5), .second, .val (.int (3 : Int32)), .val (.int su), .val (.int rr), .val (.int cp), .val (.ref b50), .val (.int t)] [(.int (2 : Int32)), (.int t), (.ref b50)]))
          refine own_Fin.step (fun _ => XS.iadd X67.here hx rfl (hb hby at_275) rfl) ?_
          show own_Fin p e below s _ _ _ (T67.setTop (mkF m 276 #[.val (.int p1), .val (.int p2), .val (.int p3), .val (.int p4), .val (.long q5), .second, .val (.int (3 : Int32)), .val (.int su), .val (.int rr), .val (.int cp), .val (.ref b50), .val (.int t)] [(.int (t + (2 : Int32))), (.ref b50)]))
          refine own_Fin.step (fun _ => XS.sipush X67.here hx rfl (hb hby at_276)) ?_
          show own_Fin p e below s _ _ _ (T67.setTop (mkF m 279 #[.val (.int p1), .val (.int p2), .val (.int p3), .val (.int p4), .val (.long q5), .second, .val (.int (3 : Int32)), .val (.int su), .val (.int rr), .val (.int cp), .val (.ref b50), .val (.int t)] [(.int (128 : Int32)), (.int (t + (2 : Int32))), (.ref b50)]))
          refine own_Fin.step (fun _ => XS.iload X67.here hx rfl (hb hby at_279) rfl) ?_
          show own_Fin p e below s _ _ _ (T67.setTop (mkF m 281 #[.val (.int p1), .val (.int p2), .val (.int p3), .val (.int p4), .val (.long q5), .second, .val (.int (3 : Int32)), .val (.int su), .val (.int rr), .val (.int cp), .val (.ref b50), .val (.int t)] [(.int cp), (.int (128 : Int32)), (.int (t + (2 : Int32))), (.ref b50)]))
          refine own_Fin.step (fun _ => XS.bipush X67.here hx rfl (hb hby at_281)) ?_
          show own_Fin p e below s _ _ _ (T67.setTop (mkF m 283 #[.val (.int p1), .val (.int p2), .val (.int p3), .val (.int p4), .val (.long q5), .second, .val (.int (3 : Int32)), .val (.int su), .val (.int rr), .val (.int cp), .val (.ref b50), .val (.int t)] [(.int (63 : Int32)), (.int cp), (.int (128 : Int32)), (.int (t + (2 : Int32))), (.ref b50)]))
          refine own_Fin.step (fun _ => XS.iand X67.here hx rfl (hb hby at_283) rfl) ?_
          show own_Fin p e below s _ _ _ (T67.setTop (mkF m 284 #[.val (.int p1), .val (.int p2), .val (.int p3), .val (.int p4), .val (.long q5), .second, .val (.int (3 : Int32)), .val (.int su), .val (.int rr), .val (.int cp), .val (.ref b50), .val (.int t)] [(.int (cp &&& (63 : Int32))), (.int (128 : Int32)), (.int (t + (2 : Int32))), (.ref b50)]))
          refine own_Fin.step (fun _ => XS.ior X67.here hx rfl (hb hby at_284) rfl) ?_
          show own_Fin p e below s _ _ _ (T67.setTop (mkF m 285 #[.val (.int p1), .val (.int p2), .val (.int p3), .val (.int p4), .val (.long q5), .second, .val (.int (3 : Int32)), .val (.int su), .val (.int rr), .val (.int cp), .val (.ref b50), .val (.int t)] [(.int ((128 : Int32) ||| (cp &&& (63 : Int32)))), (.int (t + (2 : Int32))), (.ref b50)]))
          refine own_Fin.step (fun _ => XS.i2b X67.here hx rfl (hb hby at_285) rfl) ?_
          show own_Fin p e below s _ _ _ (T67.setTop (mkF m 286 #[.val (.int p1), .val (.int p2), .val (.int p3), .val (.int p4), .val (.long q5), .second, .val (.int (3 : Int32)), .val (.int su), .val (.int rr), .val (.int cp), .val (.ref b50), .val (.int t)] [(.int (((128 : Int32) ||| (cp &&& (63 : Int32))).toInt8.toInt32)), (.int (t + (2 : Int32))), (.ref b50)]))
          obtain ⟨T69, h69, X69, e69, V69, W69, st69⟩ := own_stFB X67 hx hZ e67 V67 (j := (t + (2 : Int32))) (own_ix (i := 2) (iv := 2) (by decide) ht (by decide) (by decide)).1 (g := (mkF m 286 #[.val (.int p1), .val (.int p2), .val (.int p3), .val (.int p4), .val (.long q5), .second, .val (.int (3 : Int32)), .val (.int su), .val (.int rr), .val (.int cp), .val (.ref b50), .val (.int t)] [(.int (((128 : Int32) ||| (cp &&& (63 : Int32))).toInt8.toInt32)), (.int (t + (2 : Int32))), (.ref b50)])) rfl rfl (hb hby at_286)
          have N69 := Fr.snoc X69 N67 ge51
          have Z69 : n0 ≤ h69.size := Nat.le_trans Z67 (Nat.le_of_eq W69.size.symm)
          refine own_Fin.step st69 ?_
          show own_Fin p e below s _ _ _ (T69.setTop (mkF m 287 #[.val (.int p1), .val (.int p2), .val (.int p3), .val (.int p4), .val (.long q5), .second, .val (.int (3 : Int32)), .val (.int su), .val (.int rr), .val (.int cp), .val (.ref b50), .val (.int t)] []))
          refine own_Fin.step (fun _ => XS.goto X69.here hx rfl (pc0 := 287) (pc' := 362) rfl (hb hby at_287) (by decide) (by decide)) ?_
          show own_Fin p e below s _ _ _ (T69.setTop (mkF m 362 #[.val (.int p1), .val (.int p2), .val (.int p3), .val (.int p4), .val (.long q5), .second, .val (.int (3 : Int32)), .val (.int su), .val (.int rr), .val (.int cp), .val (.ref b50), .val (.int t)] []))
          refine own_Fin.step (fun _ => XS.aload X69.here hx rfl (hb hby at_362) rfl rfl) ?_
          show own_Fin p e below s _ _ _ (T69.setTop (mkF m 364 #[.val (.int p1), .val (.int p2), .val (.int p3), .val (.int p4), .val (.long q5), .second, .val (.int (3 : Int32)), .val (.int su), .val (.int rr), .val (.int cp), .val (.ref b50), .val (.int t)] [(.ref b50)]))
          refine own_Fin.step (fun _ => XS.iload X69.here hx rfl (hb hby at_364) rfl) ?_
          show own_Fin p e below s _ _ _ (T69.setTop (mkF m 366 #[.val (.int p1), .val (.int p2), .val (.int p3), .val (.int p4), .val (.long q5), .second, .val (.int (3 : Int32)), .val (.int su), .val (.int rr), .val (.int cp), .val (.ref b50), .val (.int t)] [(.int t), (.ref b50)]))
          refine own_Fin.step (fun _ => XS.iload X69.here hx rfl (hb hby at_366) rfl) ?_
          show own_Fin p e below s _ _ _ (T69.setTop (mkF m 368 #[.val (.int p1), .val (.int p2), .val (.int p3), .val (.int p4), .val (.long q5), .second, .val (.int (3 : Int32)), .val (.int su), .val (.int rr), .val (.int cp), .val (.ref b50), .val (.int t)] [(.int (3 : Int32)), (.int t), (.ref b50)]))
          refine own_Fin.step (fun _ => XS.iload X69.here hx rfl (hb hby at_368) rfl) ?_
          show own_Fin p e below s _ _ _ (T69.setTop (mkF m 370 #[.val (.int p1), .val (.int p2), .val (.int p3), .val (.int p4), .val (.long q5), .second, .val (.int (3 : Int32)), .val (.int su), .val (.int rr), .val (.int cp), .val (.ref b50), .val (.int t)] [(.int su), (.int (3 : Int32)), (.int t), (.ref b50)]))
          obtain ⟨_, T71, L71, X71, ⟨rfl, N71q, e71⟩, st71⟩ := own_callS X69 hx hZ hown (own_w hw 2 rfl) (own_w hw 3 rfl) (own_w hw 4 rfl) (own_w hw 5 rfl) (by decide) (rm3b l Z a0 hw b50 t su k50 (own_upd (own_upd (own_upd (own_upd (own_upd (own_upd (own_upd (own_upd (own_upd (fun _ => (0 : Int32)) ((0 : Int32)).toNatClampNeg (nar .byte ((q5.toInt32).toInt8.toInt32))) ((1 : Int32)).toNatClampNeg (nar .byte ((((q5.toUInt64 >>> ((8 : Int32) &&& 0x3f).toInt64.toUInt64).toInt64).toInt32).toInt8.toInt32))) ((2 : Int32)).toNatClampNeg (nar .byte ((((q5.toUInt64 >>> ((16 : Int32) &&& 0x3f).toInt64.toUInt64).toInt64).toInt32).toInt8.toInt32))) ((3 : Int32)).toNatClampNeg (nar .byte ((((q5.toUInt64 >>> ((24 : Int32) &&& 0x3f).toInt64.toUInt64).toInt64).toInt32).toInt8.toInt32))) ((4 : Int32)).toNatClampNeg (nar .byte ((((q5.toUInt64 >>> ((32 : Int32) &&& 0x3f).toInt64.toUInt64).toInt64).toInt32).toInt8.toInt32))) ((5 : Int32)).toNatClampNeg (nar .byte ((((q5.toUInt64 >>> ((40 : Int32) &&& 0x3f).toInt64.toUInt64).toInt64).toInt32).toInt8.toInt32))) (t).toNatClampNeg (nar .byte (((224 : Int32) ||| ((cp.toUInt32 >>> ((12 : Int32) &&& 31).toUInt32).toInt32)).toInt8.toInt32))) ((t + (1 : Int32))).toNatClampNeg (nar .byte (((128 : Int32) ||| (((cp.toUInt32 >>> ((6 : Int32) &&& 31).toUInt32).toInt32) &&& (63 : Int32))).toInt8.toInt32))) ((t + (2 : Int32))).toNatClampNeg (nar .byte (((128 : Int32) ||| (cp &&& (63 : Int32))).toInt8.toInt32))) (nar .byte (((224 : Int32) ||| ((cp.toUInt32 >>> ((12 : Int32) &&& 31).toUInt32).toInt32)).toInt8.toInt32)) (nar .byte (((128 : Int32) ||| (((cp.toUInt32 >>> ((6 : Int32) &&& 31).toUInt32).toInt32) &&& (63 : Int32))).toInt8.toInt32)) (nar .byte (((128 : Int32) ||| (cp &&& (63 : Int32))).toInt8.toInt32)) cp h69 n0 Z69 V69 (own_ix0 ht (by decide)) (own_ix (i := 1) (iv := 1) (by decide) ht (by decide) (by decide)).1 (own_ix (i := 2) (iv := 2) (by decide) ht (by decide) (by decide)).1 (by simp [own_upd, nx1, nx2]) (by simp [own_upd, nx1, nx2]) (by simp [own_upd, nx1, nx2]) (own_dec3 cp hcp.1 hcp.2).2.1 (own_dec3 cp hcp.1 hcp.2).2.2  (own_dec3 cp hcp.1 hcp.2).1 (own_nlt (d := 2048) (by decide) hcp.1) hsr) (by decide) (by decide) e69 (W := 0) (g := (mkF m 370 #[.val (.int p1), .val (.int p2), .val (.int p3), .val (.int p4), .val (.long q5), .second, .val (.int (3 : Int32)), .val (.int su), .val (.int rr), .val (.int cp), .val (.ref b50), .val (.int t)] [(.int su), (.int (3 : Int32)), (.int t), (.ref b50)])) rfl (by rw [hml]; rfl) (argsL := [(.ref b50), (.int t), (.int (3 : Int32)), (.int su)]) (rest := []) (lenOf pd_2 rfl) rfl rfl (by show 2 * 0 + _ ≤ _; exact Nat.le_of_eq rfl) (hb hby at_370) (by decide) (by decide)
          have N71 := Fr.app N69 N71q
          refine own_Fin.step st71 ?_
          show own_Fin p e below s _ _ _ (T71.setTop (mkF m 373 #[.val (.int p1), .val (.int p2), .val (.int p3), .val (.int p4), .val (.long q5), .second, .val (.int (3 : Int32)), .val (.int su), .val (.int rr), .val (.int cp), .val (.ref b50), .val (.int t)] [(.int cp)]))
          refine own_Fin.step (fun _ => XS.iload X71.here hx rfl (hb hby at_373) rfl) ?_
          show own_Fin p e below s _ _ _ (T71.setTop (mkF m 375 #[.val (.int p1), .val (.int p2), .val (.int p3), .val (.int p4), .val (.long q5), .second, .val (.int (3 : Int32)), .val (.int su), .val (.int rr), .val (.int cp), .val (.ref b50), .val (.int t)] [(.int cp), (.int cp)]))
          refine own_Fin.step (fun _ => XS.icmpNo X71.here hx rfl (hb hby at_375) rfl (XT.ii_ne_f (rfl : cp = cp))) ?_
          show own_Fin p e below s _ _ _ (T71.setTop (mkF m 378 #[.val (.int p1), .val (.int p2), .val (.int p3), .val (.int p4), .val (.long q5), .second, .val (.int (3 : Int32)), .val (.int su), .val (.int rr), .val (.int cp), .val (.ref b50), .val (.int t)] []))
          refine own_Fin.step (fun _ => XS.iconst X71.here hx rfl (hb hby at_378)) ?_
          show own_Fin p e below s _ _ _ (T71.setTop (mkF m 379 #[.val (.int p1), .val (.int p2), .val (.int p3), .val (.int p4), .val (.long q5), .second, .val (.int (3 : Int32)), .val (.int su), .val (.int rr), .val (.int cp), .val (.ref b50), .val (.int t)] [(.int (1 : Int32))]))
          refine own_Fin.step (fun _ => XS.goto X71.here hx rfl (pc0 := 379) (pc' := 383) rfl (hb hby at_379) (by decide) (by decide)) ?_
          show own_Fin p e below s _ _ _ (T71.setTop (mkF m 383 #[.val (.int p1), .val (.int p2), .val (.int p3), .val (.int p4), .val (.long q5), .second, .val (.int (3 : Int32)), .val (.int su), .val (.int rr), .val (.int cp), .val (.ref b50), .val (.int t)] [(.int (1 : Int32))]))
          exact own_retN X71 hx hlk (t := .boolean) hret (by simp) (hb hby at_383) ⟨rfl, N71⟩ (by decide) (by decide)
        ·
          refine own_Fin.step (fun _ => XS.icmpNo X0.here hx rfl (hb hby at_83) rfl (XT.ii_gt_f hc83_49)) ?_
          show own_Fin p e below s _ _ _ (s₁.setTop (mkF m 86 #[.val (.int p1), .val (.int p2), .val (.int p3), .val (.int p4), .val (.long q5), .second, .val (.int (3 : Int32)), .val (.int su), .val (.int rr), .val (.int cp), .unset, .unset] []))
          refine own_Fin.step (fun _ => XS.iload X0.here hx rfl (hb hby at_86) rfl) ?_
          show own_Fin p e below s _ _ _ (s₁.setTop (mkF m 88 #[.val (.int p1), .val (.int p2), .val (.int p3), .val (.int p4), .val (.long q5), .second, .val (.int (3 : Int32)), .val (.int su), .val (.int rr), .val (.int cp), .unset, .unset] [(.int cp)]))
          refine own_Fin.step (fun _ => XS.sipush X0.here hx rfl (hb hby at_88)) ?_
          show own_Fin p e below s _ _ _ (s₁.setTop (mkF m 91 #[.val (.int p1), .val (.int p2), .val (.int p3), .val (.int p4), .val (.long q5), .second, .val (.int (3 : Int32)), .val (.int su), .val (.int rr), .val (.int cp), .unset, .unset] [(.int (2048 : Int32)), (.int cp)]))
          refine own_Fin.step (fun _ => XS.iadd X0.here hx rfl (hb hby at_91) rfl) ?_
          show own_Fin p e below s _ _ _ (s₁.setTop (mkF m 92 #[.val (.int p1), .val (.int p2), .val (.int p3), .val (.int p4), .val (.long q5), .second, .val (.int (3 : Int32)), .val (.int su), .val (.int rr), .val (.int cp), .unset, .unset] [(.int (cp + (2048 : Int32)))]))
          generalize hcq0 : (cp + (2048 : Int32)) = cq
          have hcq : 2048 ≤ cq.toInt ∧ cq.toInt < 65536 ∧ 57344 ≤ cq.toInt := by
            have h1 := c_iadd cp 2048
            have r := rng32 (cp + 2048)
            have q1 : (2048 : Int32).toInt = 2048 := by decide
            have q2 : (55296 : Int32).toInt = 55296 := by decide
            have q3 : (57343 : Int32).toInt = 57343 := by decide
            have g1 := hc76_26
            have g2 := hc83_49
            rw [Int32.lt_iff_toInt_lt] at g1 g2
            rw [← hcq0]; omega
          refine own_Fin.step (fun _ => XS.istore X0.here hx rfl (hb hby at_92) rfl (l' := #[.val (.int p1), .val (.int p2), .val (.int p3), .val (.int p4), .val (.long q5), .second, .val (.int (3 : Int32)), .val (.int su), .val (.int rr), .val (.int cq), .unset, .unset]) rfl) ?_
          show own_Fin p e below s _ _ _ (s₁.setTop (mkF m 94 #[.val (.int p1), .val (.int p2), .val (.int p3), .val (.int p4), .val (.long q5), .second, .val (.int (3 : Int32)), .val (.int su), .val (.int rr), .val (.int cq), .unset, .unset] []))
          refine own_Fin.step (fun _ => XS.goto X0.here hx rfl (pc0 := 94) (pc' := 107) rfl (hb hby at_94) (by decide) (by decide)) ?_
          show own_Fin p e below s _ _ _ (s₁.setTop (mkF m 107 #[.val (.int p1), .val (.int p2), .val (.int p3), .val (.int p4), .val (.long q5), .second, .val (.int (3 : Int32)), .val (.int su), .val (.int rr), .val (.int cq), .unset, .unset] []))
          have hsr : su = 0 → own_sur (cq.toUInt32.toUInt16.toUInt32.toInt32) = 0 := fun _ => own_nosur ⟨by omega, by omega⟩ (Or.inr (own_nlt (d := 57344) (by decide) hcq.2.2))
          refine own_Fin.step (fun _ => XS.bipush X0.here hx rfl (hb hby at_107)) ?_
          show own_Fin p e below s _ _ _ (s₁.setTop (mkF m 109 #[.val (.int p1), .val (.int p2), .val (.int p3), .val (.int p4), .val (.long q5), .second, .val (.int (3 : Int32)), .val (.int su), .val (.int rr), .val (.int cq), .unset, .unset] [(.int (6 : Int32))]))
          obtain ⟨T72, h72, k72, b72, X72, e72, E72, g72, V72, st72⟩ := own_newA X0 hx hZ (own_w hw 1 rfl) e0 (ty := .byte) (dv := (.int (0 : Int32))) rfl rfl (g := (mkF m 109 #[.val (.int p1), .val (.int p2), .val (.int p3), .val (.int p4), .val (.long q5), .second, .val (.int (3 : Int32)), .val (.int su), .val (.int rr), .val (.int cq), .unset, .unset] [(.int (6 : Int32))])) rfl (hb hby at_109) rfl (by decide) (cap := 6) (by decide) (by decide) (by decide) (by decide) (6)
          have ge73 : n0 ≤ b72 := Nat.le_trans Z0 (Nat.le_of_eq g72.symm)
          have Z72 : n0 ≤ h72.size := Nat.le_trans Z0 E72.1
          have V72' : Arv Z h72 b72 k72 .byte (6 : Int32) [(.int (0 : Int32)), (.int (0 : Int32)), (.int (0 : Int32)), (.int (0 : Int32)), (.int (0 : Int32)), (.int (0 : Int32))] (.int (0 : Int32)) := V72
          refine own_Fin.step st72 ?_
          show own_Fin p e below s _ _ _ (T72.setTop (mkF m 111 #[.val (.int p1), .val (.int p2), .val (.int p3), .val (.int p4), .val (.long q5), .second, .val (.int (3 : Int32)), .val (.int su), .val (.int rr), .val (.int cq), .unset, .unset] [(.ref b72)]))
          have Vf74 := own_Arf.of (N := 6) V72'
          refine own_Fin.step (fun _ => XS.astore X72.here hx rfl (hb hby at_111) rfl rfl (l' := #[.val (.int p1), .val (.int p2), .val (.int p3), .val (.int p4), .val (.long q5), .second, .val (.int (3 : Int32)), .val (.int su), .val (.int rr), .val (.int cq), .val (.ref b72), .unset]) rfl) ?_
          show own_Fin p e below s _ _ _ (T72.setTop (mkF m 113 #[.val (.int p1), .val (.int p2), .val (.int p3), .val (.int p4), .val (.long q5), .second, .val (.int (3 : Int32)), .val (.int su), .val (.int rr), .val (.int cq), .val (.ref b72), .unset] []))
          refine own_Fin.step (fun _ => XS.aload X72.here hx rfl (hb hby at_113) rfl rfl) ?_
          show own_Fin p e below s _ _ _ (T72.setTop (mkF m 115 #[.val (.int p1), .val (.int p2), .val (.int p3), .val (.int p4), .val (.long q5), .second, .val (.int (3 : Int32)), .val (.int su), .val (.int rr), .val (.int cq), .val (.ref b72), .unset] [(.ref b72)]))
          refine own_Fin.step (fun _ => XS.iconst X72.here hx rfl (hb hby at_115)) ?_
          show own_Fin p e below s _ _ _ (T72.setTop (mkF m 116 #[.val (.int p1), .val (.int p2), .val (.int p3), .val (.int p4), .val (.long q5), .second, .val (.int (3 : Int32)), .val (.int su), .val (.int rr), .val (.int cq), .val (.ref b72), .unset] [(.int (0 : Int32)), (.ref b72)]))
          refine own_Fin.step (fun _ => XS.lload X72.here hx rfl (hb hby at_116) rfl) ?_
          show own_Fin p e below s _ _ _ (T72.setTop (mkF m 118 #[.val (.int p1), .val (.int p2), .val (.int p3), .val (.int p4), .val (.long q5), .second, .val (.int (3 : Int32)), .val (.int su), .val (.int rr), .val (.int cq), .val (.ref b72), .unset] [(.long q5), (.int (0 : Int32)), (.ref b72)]))
          refine own_Fin.step (fun _ => XS.l2i X72.here hx rfl (hb hby at_118) rfl) ?_
          show own_Fin p e below s _ _ _ (T72.setTop (mkF m 119 #[.val (.int p1), .val (.int p2), .val (.int p3), .val (.int p4), .val (.long q5), .second, .val (.int (3 : Int32)), .val (.int su), .val (.int rr), .val (.int cq), .val (.ref b72), .unset] [(.int (q5.toInt32)), (.int (0 : Int32)), (.ref b72)]))
          refine own_Fin.step (fun _ => XS.i2b X72.here hx rfl (hb hby at_119) rfl) ?_
          show own_Fin p e below s _ _ _ (T72.setTop (mkF m 120 #[.val (.int p1), .val (.int p2), .val (.int p3), .val (.int p4), .val (.long q5), .second, .val (.int (3 : Int32)), .val (.int su), .val (.int rr), .val (.int cq), .val (.ref b72), .unset] [(.int ((q5.toInt32).toInt8.toInt32)), (.int (0 : Int32)), (.ref b72)]))
          obtain ⟨T75, h75, X75, e75, V75, W75, st75⟩ := own_stFB X72 hx hZ e72 Vf74 (j := (0 : Int32)) ⟨by decide, by decide⟩ (g := (mkF m 120 #[.val (.int p1), .val (.int p2), .val (.int p3), .val (.int p4), .val (.long q5), .second, .val (.int (3 : Int32)), .val (.int su), .val (.int rr), .val (.int cq), .val (.ref b72), .unset] [(.int ((q5.toInt32).toInt8.toInt32)), (.int (0 : Int32)), (.ref b72)])) rfl rfl (hb hby at_120)
          have N75 := Fr.snoc X75 N0 ge73
          have Z75 : n0 ≤ h75.size := Nat.le_trans Z72 (Nat.le_of_eq W75.size.symm)
          refine own_Fin.step st75 ?_
          show own_Fin p e below s _ _ _ (T75.setTop (mkF m 121 #[.val (.int p1), .val (.int p2), .val (.int p3), .val (.int p4), .val (.long q5), .second, .val (.int (3 : Int32)), .val (.int su), .val (.int rr), .val (.int cq), .val (.ref b72), .unset] []))
          refine own_Fin.step (fun _ => XS.aload X75.here hx rfl (hb hby at_121) rfl rfl) ?_
          show own_Fin p e below s _ _ _ (T75.setTop (mkF m 123 #[.val (.int p1), .val (.int p2), .val (.int p3), .val (.int p4), .val (.long q5), .second, .val (.int (3 : Int32)), .val (.int su), .val (.int rr), .val (.int cq), .val (.ref b72), .unset] [(.ref b72)]))
          refine own_Fin.step (fun _ => XS.iconst X75.here hx rfl (hb hby at_123)) ?_
          show own_Fin p e below s _ _ _ (T75.setTop (mkF m 124 #[.val (.int p1), .val (.int p2), .val (.int p3), .val (.int p4), .val (.long q5), .second, .val (.int (3 : Int32)), .val (.int su), .val (.int rr), .val (.int cq), .val (.ref b72), .unset] [(.int (1 : Int32)), (.ref b72)]))
          refine own_Fin.step (fun _ => XS.lload X75.here hx rfl (hb hby at_124) rfl) ?_
          show own_Fin p e below s _ _ _ (T75.setTop (mkF m 126 #[.val (.int p1), .val (.int p2), .val (.int p3), .val (.int p4), .val (.long q5), .second, .val (.int (3 : Int32)), .val (.int su), .val (.int rr), .val (.int cq), .val (.ref b72), .unset] [(.long q5), (.int (1 : Int32)), (.ref b72)]))
          refine own_Fin.step (fun _ => XS.bipush X75.here hx rfl (hb hby at_126)) ?_
          show own_Fin p e below s _ _ _ (T75.setTop (mkF m 128 #[.val (.int p1), .val (.int p2), .val (.int p3), .val (.int p4), .val (.long q5), .second, .val (.int (3 : Int32)), .val (.int su), .val (.int rr), .val (.int cq), .val (.ref b72), .unset] [(.int (8 : Int32)), (.long q5), (.int (1 : Int32)), (.ref b72)]))
          refine own_Fin.step (fun _ => XS.lushr X75.here hx rfl (hb hby at_128) rfl) ?_
          show own_Fin p e below s _ _ _ (T75.setTop (mkF m 129 #[.val (.int p1), .val (.int p2), .val (.int p3), .val (.int p4), .val (.long q5), .second, .val (.int (3 : Int32)), .val (.int su), .val (.int rr), .val (.int cq), .val (.ref b72), .unset] [(.long ((q5.toUInt64 >>> ((8 : Int32) &&& 0x3f).toInt64.toUInt64).toInt64)), (.int (1 : Int32)), (.ref b72)]))
          refine own_Fin.step (fun _ => XS.l2i X75.here hx rfl (hb hby at_129) rfl) ?_
          show own_Fin p e below s _ _ _ (T75.setTop (mkF m 130 #[.val (.int p1), .val (.int p2), .val (.int p3), .val (.int p4), .val (.long q5), .second, .val (.int (3 : Int32)), .val (.int su), .val (.int rr), .val (.int cq), .val (.ref b72), .unset] [(.int (((q5.toUInt64 >>> ((8 : Int32) &&& 0x3f).toInt64.toUInt64).toInt64).toInt32)), (.int (1 : Int32)), (.ref b72)]))
          refine own_Fin.step (fun _ => XS.i2b X75.here hx rfl (hb hby at_130) rfl) ?_
          show own_Fin p e below s _ _ _ (T75.setTop (mkF m 131 #[.val (.int p1), .val (.int p2), .val (.int p3), .val (.int p4), .val (.long q5), .second, .val (.int (3 : Int32)), .val (.int su), .val (.int rr), .val (.int cq), .val (.ref b72), .unset] [(.int ((((q5.toUInt64 >>> ((8 : Int32) &&& 0x3f).toInt64.toUInt64).toInt64).toInt32).toInt8.toInt32)), (.int (1 : Int32)), (.ref b72)]))
          obtain ⟨T77, h77, X77, e77, V77, W77, st77⟩ := own_stFB X75 hx hZ e75 V75 (j := (1 : Int32)) ⟨by decide, by decide⟩ (g := (mkF m 131 #[.val (.int p1), .val (.int p2), .val (.int p3), .val (.int p4), .val (.long q5), .second, .val (.int (3 : Int32)), .val (.int su), .val (.int rr), .val (.int cq), .val (.ref b72), .unset] [(.int ((((q5.toUInt64 >>> ((8 : Int32) &&& 0x3f).toInt64.toUInt64).toInt64).toInt32).toInt8.toInt32)), (.int (1 : Int32)), (.ref b72)])) rfl rfl (hb hby at_131)
          have N77 := Fr.snoc X77 N75 ge73
          have Z77 : n0 ≤ h77.size := Nat.le_trans Z75 (Nat.le_of_eq W77.size.symm)
          refine own_Fin.step st77 ?_
          show own_Fin p e below s _ _ _ (T77.setTop (mkF m 132 #[.val (.int p1), .val (.int p2), .val (.int p3), .val (.int p4), .val (.long q5), .second, .val (.int (3 : Int32)), .val (.int su), .val (.int rr), .val (.int cq), .val (.ref b72), .unset] []))
          refine own_Fin.step (fun _ => XS.aload X77.here hx rfl (hb hby at_132) rfl rfl) ?_
          show own_Fin p e below s _ _ _ (T77.setTop (mkF m 134 #[.val (.int p1), .val (.int p2), .val (.int p3), .val (.int p4), .val (.long q5), .second, .val (.int (3 : Int32)), .val (.int su), .val (.int rr), .val (.int cq), .val (.ref b72), .unset] [(.ref b72)]))
          refine own_Fin.step (fun _ => XS.iconst X77.here hx rfl (hb hby at_134)) ?_
          show own_Fin p e below s _ _ _ (T77.setTop (mkF m 135 #[.val (.int p1), .val (.int p2), .val (.int p3), .val (.int p4), .val (.long q5), .second, .val (.int (3 : Int32)), .val (.int su), .val (.int rr), .val (.int cq), .val (.ref b72), .unset] [(.int (2 : Int32)), (.ref b72)]))
          refine own_Fin.step (fun _ => XS.lload X77.here hx rfl (hb hby at_135) rfl) ?_
          show own_Fin p e below s _ _ _ (T77.setTop (mkF m 137 #[.val (.int p1), .val (.int p2), .val (.int p3), .val (.int p4), .val (.long q5), .second, .val (.int (3 : Int32)), .val (.int su), .val (.int rr), .val (.int cq), .val (.ref b72), .unset] [(.long q5), (.int (2 : Int32)), (.ref b72)]))
          refine own_Fin.step (fun _ => XS.bipush X77.here hx rfl (hb hby at_137)) ?_
          show own_Fin p e below s _ _ _ (T77.setTop (mkF m 139 #[.val (.int p1), .val (.int p2), .val (.int p3), .val (.int p4), .val (.long q5), .second, .val (.int (3 : Int32)), .val (.int su), .val (.int rr), .val (.int cq), .val (.ref b72), .unset] [(.int (16 : Int32)), (.long q5), (.int (2 : Int32)), (.ref b72)]))
          refine own_Fin.step (fun _ => XS.lushr X77.here hx rfl (hb hby at_139) rfl) ?_
          show own_Fin p e below s _ _ _ (T77.setTop (mkF m 140 #[.val (.int p1), .val (.int p2), .val (.int p3), .val (.int p4), .val (.long q5), .second, .val (.int (3 : Int32)), .val (.int su), .val (.int rr), .val (.int cq), .val (.ref b72), .unset] [(.long ((q5.toUInt64 >>> ((16 : Int32) &&& 0x3f).toInt64.toUInt64).toInt64)), (.int (2 : Int32)), (.ref b72)]))
          refine own_Fin.step (fun _ => XS.l2i X77.here hx rfl (hb hby at_140) rfl) ?_
          show own_Fin p e below s _ _ _ (T77.setTop (mkF m 141 #[.val (.int p1), .val (.int p2), .val (.int p3), .val (.int p4), .val (.long q5), .second, .val (.int (3 : Int32)), .val (.int su), .val (.int rr), .val (.int cq), .val (.ref b72), .unset] [(.int (((q5.toUInt64 >>> ((16 : Int32) &&& 0x3f).toInt64.toUInt64).toInt64).toInt32)), (.int (2 : Int32)), (.ref b72)]))
          refine own_Fin.step (fun _ => XS.i2b X77.here hx rfl (hb hby at_141) rfl) ?_
          show own_Fin p e below s _ _ _ (T77.setTop (mkF m 142 #[.val (.int p1), .val (.int p2), .val (.int p3), .val (.int p4), .val (.long q5), .second, .val (.int (3 : Int32)), .val (.int su), .val (.int rr), .val (.int cq), .val (.ref b72), .unset] [(.int ((((q5.toUInt64 >>> ((16 : Int32) &&& 0x3f).toInt64.toUInt64).toInt64).toInt32).toInt8.toInt32)), (.int (2 : Int32)), (.ref b72)]))
          obtain ⟨T79, h79, X79, e79, V79, W79, st79⟩ := own_stFB X77 hx hZ e77 V77 (j := (2 : Int32)) ⟨by decide, by decide⟩ (g := (mkF m 142 #[.val (.int p1), .val (.int p2), .val (.int p3), .val (.int p4), .val (.long q5), .second, .val (.int (3 : Int32)), .val (.int su), .val (.int rr), .val (.int cq), .val (.ref b72), .unset] [(.int ((((q5.toUInt64 >>> ((16 : Int32) &&& 0x3f).toInt64.toUInt64).toInt64).toInt32).toInt8.toInt32)), (.int (2 : Int32)), (.ref b72)])) rfl rfl (hb hby at_142)
          have N79 := Fr.snoc X79 N77 ge73
          have Z79 : n0 ≤ h79.size := Nat.le_trans Z77 (Nat.le_of_eq W79.size.symm)
          refine own_Fin.step st79 ?_
          show own_Fin p e below s _ _ _ (T79.setTop (mkF m 143 #[.val (.int p1), .val (.int p2), .val (.int p3), .val (.int p4), .val (.long q5), .second, .val (.int (3 : Int32)), .val (.int su), .val (.int rr), .val (.int cq), .val (.ref b72), .unset] []))
          refine own_Fin.step (fun _ => XS.aload X79.here hx rfl (hb hby at_143) rfl rfl) ?_
          show own_Fin p e below s _ _ _ (T79.setTop (mkF m 145 #[.val (.int p1), .val (.int p2), .val (.int p3), .val (.int p4), .val (.long q5), .second, .val (.int (3 : Int32)), .val (.int su), .val (.int rr), .val (.int cq), .val (.ref b72), .unset] [(.ref b72)]))
          refine own_Fin.step (fun _ => XS.iconst X79.here hx rfl (hb hby at_145)) ?_
          show own_Fin p e below s _ _ _ (T79.setTop (mkF m 146 #[.val (.int p1), .val (.int p2), .val (.int p3), .val (.int p4), .val (.long q5), .second, .val (.int (3 : Int32)), .val (.int su), .val (.int rr), .val (.int cq), .val (.ref b72), .unset] [(.int (3 : Int32)), (.ref b72)]))
          refine own_Fin.step (fun _ => XS.lload X79.here hx rfl (hb hby at_146) rfl) ?_
          show own_Fin p e below s _ _ _ (T79.setTop (mkF m 148 #[.val (.int p1), .val (.int p2), .val (.int p3), .val (.int p4), .val (.long q5), .second, .val (.int (3 : Int32)), .val (.int su), .val (.int rr), .val (.int cq), .val (.ref b72), .unset] [(.long q5), (.int (3 : Int32)), (.ref b72)]))
          refine own_Fin.step (fun _ => XS.bipush X79.here hx rfl (hb hby at_148)) ?_
          show own_Fin p e below s _ _ _ (T79.setTop (mkF m 150 #[.val (.int p1), .val (.int p2), .val (.int p3), .val (.int p4), .val (.long q5), .second, .val (.int (3 : Int32)), .val (.int su), .val (.int rr), .val (.int cq), .val (.ref b72), .unset] [(.int (24 : Int32)), (.long q5), (.int (3 : Int32)), (.ref b72)]))
          refine own_Fin.step (fun _ => XS.lushr X79.here hx rfl (hb hby at_150) rfl) ?_
          show own_Fin p e below s _ _ _ (T79.setTop (mkF m 151 #[.val (.int p1), .val (.int p2), .val (.int p3), .val (.int p4), .val (.long q5), .second, .val (.int (3 : Int32)), .val (.int su), .val (.int rr), .val (.int cq), .val (.ref b72), .unset] [(.long ((q5.toUInt64 >>> ((24 : Int32) &&& 0x3f).toInt64.toUInt64).toInt64)), (.int (3 : Int32)), (.ref b72)]))
          refine own_Fin.step (fun _ => XS.l2i X79.here hx rfl (hb hby at_151) rfl) ?_
          show own_Fin p e below s _ _ _ (T79.setTop (mkF m 152 #[.val (.int p1), .val (.int p2), .val (.int p3), .val (.int p4), .val (.long q5), .second, .val (.int (3 : Int32)), .val (.int su), .val (.int rr), .val (.int cq), .val (.ref b72), .unset] [(.int (((q5.toUInt64 >>> ((24 : Int32) &&& 0x3f).toInt64.toUInt64).toInt64).toInt32)), (.int (3 : Int32)), (.ref b72)]))
          refine own_Fin.step (fun _ => XS.i2b X79.here hx rfl (hb hby at_152) rfl) ?_
          show own_Fin p e below s _ _ _ (T79.setTop (mkF m 153 #[.val (.int p1), .val (.int p2), .val (.int p3), .val (.int p4), .val (.long q5), .second, .val (.int (3 : Int32)), .val (.int su), .val (.int rr), .val (.int cq), .val (.ref b72), .unset] [(.int ((((q5.toUInt64 >>> ((24 : Int32) &&& 0x3f).toInt64.toUInt64).toInt64).toInt32).toInt8.toInt32)), (.int (3 : Int32)), (.ref b72)]))
          obtain ⟨T81, h81, X81, e81, V81, W81, st81⟩ := own_stFB X79 hx hZ e79 V79 (j := (3 : Int32)) ⟨by decide, by decide⟩ (g := (mkF m 153 #[.val (.int p1), .val (.int p2), .val (.int p3), .val (.int p4), .val (.long q5), .second, .val (.int (3 : Int32)), .val (.int su), .val (.int rr), .val (.int cq), .val (.ref b72), .unset] [(.int ((((q5.toUInt64 >>> ((24 : Int32) &&& 0x3f).toInt64.toUInt64).toInt64).toInt32).toInt8.toInt32)), (.int (3 : Int32)), (.ref b72)])) rfl rfl (hb hby at_153)
          have N81 := Fr.snoc X81 N79 ge73
          have Z81 : n0 ≤ h81.size := Nat.le_trans Z79 (Nat.le_of_eq W81.size.symm)
          refine own_Fin.step st81 ?_
          show own_Fin p e below s _ _ _ (T81.setTop (mkF m 154 #[.val (.int p1), .val (.int p2), .val (.int p3), .val (.int p4), .val (.long q5), .second, .val (.int (3 : Int32)), .val (.int su), .val (.int rr), .val (.int cq), .val (.ref b72), .unset] []))
          refine own_Fin.step (fun _ => XS.aload X81.here hx rfl (hb hby at_154) rfl rfl) ?_
          show own_Fin p e below s _ _ _ (T81.setTop (mkF m 156 #[.val (.int p1), .val (.int p2), .val (.int p3), .val (.int p4), .val (.long q5), .second, .val (.int (3 : Int32)), .val (.int su), .val (.int rr), .val (.int cq), .val (.ref b72), .unset] [(.ref b72)]))
          refine own_Fin.step (fun _ => XS.iconst X81.here hx rfl (hb hby at_156)) ?_
          show own_Fin p e below s _ _ _ (T81.setTop (mkF m 157 #[.val (.int p1), .val (.int p2), .val (.int p3), .val (.int p4), .val (.long q5), .second, .val (.int (3 : Int32)), .val (.int su), .val (.int rr), .val (.int cq), .val (.ref b72), .unset] [(.int (4 : Int32)), (.ref b72)]))
          refine own_Fin.step (fun _ => XS.lload X81.here hx rfl (hb hby at_157) rfl) ?_
          show own_Fin p e below s _ _ _ (T81.setTop (mkF m 159 #[.val (.int p1), .val (.int p2), .val (.int p3), .val (.int p4), .val (.long q5), .second, .val (.int (3 : Int32)), .val (.int su), .val (.int rr), .val (.int cq), .val (.ref b72), .unset] [(.long q5), (.int (4 : Int32)), (.ref b72)]))
          refine own_Fin.step (fun _ => XS.bipush X81.here hx rfl (hb hby at_159)) ?_
          show own_Fin p e below s _ _ _ (T81.setTop (mkF m 161 #[.val (.int p1), .val (.int p2), .val (.int p3), .val (.int p4), .val (.long q5), .second, .val (.int (3 : Int32)), .val (.int su), .val (.int rr), .val (.int cq), .val (.ref b72), .unset] [(.int (32 : Int32)), (.long q5), (.int (4 : Int32)), (.ref b72)]))
          refine own_Fin.step (fun _ => XS.lushr X81.here hx rfl (hb hby at_161) rfl) ?_
          show own_Fin p e below s _ _ _ (T81.setTop (mkF m 162 #[.val (.int p1), .val (.int p2), .val (.int p3), .val (.int p4), .val (.long q5), .second, .val (.int (3 : Int32)), .val (.int su), .val (.int rr), .val (.int cq), .val (.ref b72), .unset] [(.long ((q5.toUInt64 >>> ((32 : Int32) &&& 0x3f).toInt64.toUInt64).toInt64)), (.int (4 : Int32)), (.ref b72)]))
          refine own_Fin.step (fun _ => XS.l2i X81.here hx rfl (hb hby at_162) rfl) ?_
          show own_Fin p e below s _ _ _ (T81.setTop (mkF m 163 #[.val (.int p1), .val (.int p2), .val (.int p3), .val (.int p4), .val (.long q5), .second, .val (.int (3 : Int32)), .val (.int su), .val (.int rr), .val (.int cq), .val (.ref b72), .unset] [(.int (((q5.toUInt64 >>> ((32 : Int32) &&& 0x3f).toInt64.toUInt64).toInt64).toInt32)), (.int (4 : Int32)), (.ref b72)]))
          refine own_Fin.step (fun _ => XS.i2b X81.here hx rfl (hb hby at_163) rfl) ?_
          show own_Fin p e below s _ _ _ (T81.setTop (mkF m 164 #[.val (.int p1), .val (.int p2), .val (.int p3), .val (.int p4), .val (.long q5), .second, .val (.int (3 : Int32)), .val (.int su), .val (.int rr), .val (.int cq), .val (.ref b72), .unset] [(.int ((((q5.toUInt64 >>> ((32 : Int32) &&& 0x3f).toInt64.toUInt64).toInt64).toInt32).toInt8.toInt32)), (.int (4 : Int32)), (.ref b72)]))
          obtain ⟨T83, h83, X83, e83, V83, W83, st83⟩ := own_stFB X81 hx hZ e81 V81 (j := (4 : Int32)) ⟨by decide, by decide⟩ (g := (mkF m 164 #[.val (.int p1), .val (.int p2), .val (.int p3), .val (.int p4), .val (.long q5), .second, .val (.int (3 : Int32)), .val (.int su), .val (.int rr), .val (.int cq), .val (.ref b72), .unset] [(.int ((((q5.toUInt64 >>> ((32 : Int32) &&& 0x3f).toInt64.toUInt64).toInt64).toInt32).toInt8.toInt32)), (.int (4 : Int32)), (.ref b72)])) rfl rfl (hb hby at_164)
          have N83 := Fr.snoc X83 N81 ge73
          have Z83 : n0 ≤ h83.size := Nat.le_trans Z81 (Nat.le_of_eq W83.size.symm)
          refine own_Fin.step st83 ?_
          show own_Fin p e below s _ _ _ (T83.setTop (mkF m 165 #[.val (.int p1), .val (.int p2), .val (.int p3), .val (.int p4), .val (.long q5), .second, .val (.int (3 : Int32)), .val (.int su), .val (.int rr), .val (.int cq), .val (.ref b72), .unset] []))
          refine own_Fin.step (fun _ => XS.aload X83.here hx rfl (hb hby at_165) rfl rfl) ?_
          show own_Fin p e below s _ _ _ (T83.setTop (mkF m 167 #[.val (.int p1), .val (.int p2), .val (.int p3), .val (.int p4), .val (.long q5), .second, .val (.int (3 : Int32)), .val (.int su), .val (.int rr), .val (.int cq), .val (.ref b72), .unset] [(.ref b72)]))
          refine own_Fin.step (fun _ => XS.iconst X83.here hx rfl (hb hby at_167)) ?_
          show own_Fin p e below s _ _ _ (T83.setTop (mkF m 168 #[.val (.int p1), .val (.int p2), .val (.int p3), .val (.int p4), .val (.long q5), .second, .val (.int (3 : Int32)), .val (.int su), .val (.int rr), .val (.int cq), .val (.ref b72), .unset] [(.int (5 : Int32)), (.ref b72)]))
          refine own_Fin.step (fun _ => XS.lload X83.here hx rfl (hb hby at_168) rfl) ?_
          show own_Fin p e below s _ _ _ (T83.setTop (mkF m 170 #[.val (.int p1), .val (.int p2), .val (.int p3), .val (.int p4), .val (.long q5), .second, .val (.int (3 : Int32)), .val (.int su), .val (.int rr), .val (.int cq), .val (.ref b72), .unset] [(.long q5), (.int (5 : Int32)), (.ref b72)]))
          refine own_Fin.step (fun _ => XS.bipush X83.here hx rfl (hb hby at_170)) ?_
          show own_Fin p e below s _ _ _ (T83.setTop (mkF m 172 #[.val (.int p1), .val (.int p2), .val (.int p3), .val (.int p4), .val (.long q5), .second, .val (.int (3 : Int32)), .val (.int su), .val (.int rr), .val (.int cq), .val (.ref b72), .unset] [(.int (40 : Int32)), (.long q5), (.int (5 : Int32)), (.ref b72)]))
          refine own_Fin.step (fun _ => XS.lushr X83.here hx rfl (hb hby at_172) rfl) ?_
          show own_Fin p e below s _ _ _ (T83.setTop (mkF m 173 #[.val (.int p1), .val (.int p2), .val (.int p3), .val (.int p4), .val (.long q5), .second, .val (.int (3 : Int32)), .val (.int su), .val (.int rr), .val (.int cq), .val (.ref b72), .unset] [(.long ((q5.toUInt64 >>> ((40 : Int32) &&& 0x3f).toInt64.toUInt64).toInt64)), (.int (5 : Int32)), (.ref b72)]))
          refine own_Fin.step (fun _ => XS.l2i X83.here hx rfl (hb hby at_173) rfl) ?_
          show own_Fin p e below s _ _ _ (T83.setTop (mkF m 174 #[.val (.int p1), .val (.int p2), .val (.int p3), .val (.int p4), .val (.long q5), .second, .val (.int (3 : Int32)), .val (.int su), .val (.int rr), .val (.int cq), .val (.ref b72), .unset] [(.int (((q5.toUInt64 >>> ((40 : Int32) &&& 0x3f).toInt64.toUInt64).toInt64).toInt32)), (.int (5 : Int32)), (.ref b72)]))
          refine own_Fin.step (fun _ => XS.i2b X83.here hx rfl (hb hby at_174) rfl) ?_
          show own_Fin p e below s _ _ _ (T83.setTop (mkF m 175 #[.val (.int p1), .val (.int p2), .val (.int p3), .val (.int p4), .val (.long q5), .second, .val (.int (3 : Int32)), .val (.int su), .val (.int rr), .val (.int cq), .val (.ref b72), .unset] [(.int ((((q5.toUInt64 >>> ((40 : Int32) &&& 0x3f).toInt64.toUInt64).toInt64).toInt32).toInt8.toInt32)), (.int (5 : Int32)), (.ref b72)]))
          obtain ⟨T85, h85, X85, e85, V85, W85, st85⟩ := own_stFB X83 hx hZ e83 V83 (j := (5 : Int32)) ⟨by decide, by decide⟩ (g := (mkF m 175 #[.val (.int p1), .val (.int p2), .val (.int p3), .val (.int p4), .val (.long q5), .second, .val (.int (3 : Int32)), .val (.int su), .val (.int rr), .val (.int cq), .val (.ref b72), .unset] [(.int ((((q5.toUInt64 >>> ((40 : Int32) &&& 0x3f).toInt64.toUInt64).toInt64).toInt32).toInt8.toInt32)), (.int (5 : Int32)), (.ref b72)])) rfl rfl (hb hby at_175)
          have N85 := Fr.snoc X85 N83 ge73
          have Z85 : n0 ≤ h85.size := Nat.le_trans Z83 (Nat.le_of_eq W85.size.symm)
          refine own_Fin.step st85 ?_
          show own_Fin p e below s _ _ _ (T85.setTop (mkF m 176 #[.val (.int p1), .val (.int p2), .val (.int p3), .val (.int p4), .val (.long q5), .second, .val (.int (3 : Int32)), .val (.int su), .val (.int rr), .val (.int cq), .val (.ref b72), .unset] []))
          refine own_Fin.step (fun _ => XS.iloadN X85.here hx rfl (hb hby at_176) rfl) ?_
          show own_Fin p e below s _ _ _ (T85.setTop (mkF m 177 #[.val (.int p1), .val (.int p2), .val (.int p3), .val (.int p4), .val (.long q5), .second, .val (.int (3 : Int32)), .val (.int su), .val (.int rr), .val (.int cq), .val (.ref b72), .unset] [(.int p4)]))
          refine own_Fin.step (X85.ldcInt hx hown (mvT hZ (own_w hw 0 rfl)) (g := (mkF m 177 #[.val (.int p1), .val (.int p2), .val (.int p3), .val (.int p4), .val (.long q5), .second, .val (.int (3 : Int32)), .val (.int su), .val (.int rr), .val (.int cq), .val (.ref b72), .unset] [(.int p4)])) rfl (hb hby at_177)) ?_
          show own_Fin p e below s _ _ _ (T85.setTop (mkF m 179 #[.val (.int p1), .val (.int p2), .val (.int p3), .val (.int p4), .val (.long q5), .second, .val (.int (3 : Int32)), .val (.int su), .val (.int rr), .val (.int cq), .val (.ref b72), .unset] [(.int (2147483647 : Int32)), (.int p4)]))
          refine own_Fin.step (fun _ => XS.iand X85.here hx rfl (hb hby at_179) rfl) ?_
          show own_Fin p e below s _ _ _ (T85.setTop (mkF m 180 #[.val (.int p1), .val (.int p2), .val (.int p3), .val (.int p4), .val (.long q5), .second, .val (.int (3 : Int32)), .val (.int su), .val (.int rr), .val (.int cq), .val (.ref b72), .unset] [(.int (p4 &&& (2147483647 : Int32)))]))
          refine own_Fin.step (fun _ => XS.bipush X85.here hx rfl (hb hby at_180)) ?_
          show own_Fin p e below s _ _ _ (T85.setTop (mkF m 182 #[.val (.int p1), .val (.int p2), .val (.int p3), .val (.int p4), .val (.long q5), .second, .val (.int (3 : Int32)), .val (.int su), .val (.int rr), .val (.int cq), .val (.ref b72), .unset] [(.int (7 : Int32)), (.int (p4 &&& (2147483647 : Int32)))]))
          refine own_Fin.step (fun _ => XS.iload X85.here hx rfl (hb hby at_182) rfl) ?_
          show own_Fin p e below s _ _ _ (T85.setTop (mkF m 184 #[.val (.int p1), .val (.int p2), .val (.int p3), .val (.int p4), .val (.long q5), .second, .val (.int (3 : Int32)), .val (.int su), .val (.int rr), .val (.int cq), .val (.ref b72), .unset] [(.int (3 : Int32)), (.int (7 : Int32)), (.int (p4 &&& (2147483647 : Int32)))]))
          refine own_Fin.step (fun _ => XS.isub X85.here hx rfl (hb hby at_184) rfl) ?_
          show own_Fin p e below s _ _ _ (T85.setTop (mkF m 185 #[.val (.int p1), .val (.int p2), .val (.int p3), .val (.int p4), .val (.long q5), .second, .val (.int (3 : Int32)), .val (.int su), .val (.int rr), .val (.int cq), .val (.ref b72), .unset] [(.int (4 : Int32)), (.int (p4 &&& (2147483647 : Int32)))]))
          refine own_Fin.step (fun _ => Jvm.RoadKit.iremM X85 hx rfl (hb hby at_185) rfl (by decide)) ?_
          show own_Fin p e below s _ _ _ (T85.setTop (mkF m 186 #[.val (.int p1), .val (.int p2), .val (.int p3), .val (.int p4), .val (.long q5), .second, .val (.int (3 : Int32)), .val (.int su), .val (.int rr), .val (.int cq), .val (.ref b72), .unset] [(.int ((p4 &&& (2147483647 : Int32)) % (4 : Int32)))]))
          generalize ht0 : ((p4 &&& (2147483647 : Int32)) % (4 : Int32)) = t
          have ht : 0 ≤ t.toInt ∧ t.toInt < 4 := ht0 ▸ own_rem (d := 4) (by decide) (own_nn p4) (by decide)
          have nx1 := (own_ix (t := t) (i := 1) (iv := 1) (by decide) ht (by decide) (by decide)).2
          have nx2 := (own_ix (t := t) (i := 2) (iv := 2) (by decide) ht (by decide) (by decide)).2
          refine own_Fin.step (fun _ => XS.istore X85.here hx rfl (hb hby at_186) rfl (l' := #[.val (.int p1), .val (.int p2), .val (.int p3), .val (.int p4), .val (.long q5), .second, .val (.int (3 : Int32)), .val (.int su), .val (.int rr), .val (.int cq), .val (.ref b72), .val (.int t)]) rfl) ?_
          show own_Fin p e below s _ _ _ (T85.setTop (mkF m 188 #[.val (.int p1), .val (.int p2), .val (.int p3), .val (.int p4), .val (.long q5), .second, .val (.int (3 : Int32)), .val (.int su), .val (.int rr), .val (.int cq), .val (.ref b72), .val (.int t)] []))
          refine own_Fin.step (fun _ => XS.iload X85.here hx rfl (hb hby at_188) rfl) ?_
          show own_Fin p e below s _ _ _ (T85.setTop (mkF m 190 #[.val (.int p1), .val (.int p2), .val (.int p3), .val (.int p4), .val (.long q5), .second, .val (.int (3 : Int32)), .val (.int su), .val (.int rr), .val (.int cq), .val (.ref b72), .val (.int t)] [(.int (3 : Int32))]))
          refine own_Fin.step (fun _ => XS.iconst X85.here hx rfl (hb hby at_190)) ?_
          show own_Fin p e below s _ _ _ (T85.setTop (mkF m 191 #[.val (.int p1), .val (.int p2), .val (.int p3), .val (.int p4), .val (.long q5), .second, .val (.int (3 : Int32)), .val (.int su), .val (.int rr), .val (.int cq), .val (.ref b72), .val (.int t)] [(.int (2 : Int32)), (.int (3 : Int32))]))
          refine own_Fin.step (fun _ => XS.icmpYes X85.here hx rfl (pc0 := 191) (pc' := 229) rfl (hb hby at_191) rfl (XT.ii_ne_t (by decide : ¬ ((3 : Int32) = (2 : Int32)))) (by decide) (by decide)) ?_
          show own_Fin p e below s _ _ _ (T85.setTop (mkF m 229 #[.val (.int p1), .val (.int p2), .val (.int p3), .val (.int p4), .val (.long q5), .second, .val (.int (3 : Int32)), .val (.int su), .val (.int rr), .val (.int cq), .val (.ref b72), .val (.int t)] []))
          refine own_Fin.step (fun _ => XS.iload X85.here hx rfl (hb hby at_229) rfl) ?_
          show own_Fin p e below s _ _ _ (T85.setTop (mkF m 231 #[.val (.int p1), .val (.int p2), .val (.int p3), .val (.int p4), .val (.long q5), .second, .val (.int (3 : Int32)), .val (.int su), .val (.int rr), .val (.int cq), .val (.ref b72), .val (.int t)] [(.int (3 : Int32))]))
          refine own_Fin.step (fun _ => XS.iconst X85.here hx rfl (hb hby at_231)) ?_
          show own_Fin p e below s _ _ _ (T85.setTop (mkF m 232 #[.val (.int p1), .val (.int p2), .val (.int p3), .val (.int p4), .val (.long q5), .second, .val (.int (3 : Int32)), .val (.int su), .val (.int rr), .val (.int cq), .val (.ref b72), .val (.int t)] [(.int (3 : Int32)), (.int (3 : Int32))]))
          refine own_Fin.step (fun _ => XS.icmpNo X85.here hx rfl (hb hby at_232) rfl (XT.ii_ne_f (by decide : (3 : Int32) = (3 : Int32)))) ?_
          show own_Fin p e below s _ _ _ (T85.setTop (mkF m 235 #[.val (.int p1), .val (.int p2), .val (.int p3), .val (.int p4), .val (.long q5), .second, .val (.int (3 : Int32)), .val (.int su), .val (.int rr), .val (.int cq), .val (.ref b72), .val (.int t)] []))
          refine own_Fin.step (fun _ => XS.aload X85.here hx rfl (hb hby at_235) rfl rfl) ?_
          show own_Fin p e below s _ _ _ (T85.setTop (mkF m 237 #[.val (.int p1), .val (.int p2), .val (.int p3), .val (.int p4), .val (.long q5), .second, .val (.int (3 : Int32)), .val (.int su), .val (.int rr), .val (.int cq), .val (.ref b72), .val (.int t)] [(.ref b72)]))
          refine own_Fin.step (fun _ => XS.iload X85.here hx rfl (hb hby at_237) rfl) ?_
          show own_Fin p e below s _ _ _ (T85.setTop (mkF m 239 #[.val (.int p1), .val (.int p2), .val (.int p3), .val (.int p4), .val (.long q5), .second, .val (.int (3 : Int32)), .val (.int su), .val (.int rr), .val (.int cq), .val (.ref b72), .val (.int t)] [(.int t), (.ref b72)]))
          refine own_Fin.step (fun _ => XS.sipush X85.here hx rfl (hb hby at_239)) ?_
          show own_Fin p e below s _ _ _ (T85.setTop (mkF m 242 #[.val (.int p1), .val (.int p2), .val (.int p3), .val (.int p4), .val (.long q5), .second, .val (.int (3 : Int32)), .val (.int su), .val (.int rr), .val (.int cq), .val (.ref b72), .val (.int t)] [(.int (224 : Int32)), (.int t), (.ref b72)]))
          refine own_Fin.step (fun _ => XS.iload X85.here hx rfl (hb hby at_242) rfl) ?_
          show own_Fin p e below s _ _ _ (T85.setTop (mkF m 244 #[.val (.int p1), .val (.int p2), .val (.int p3), .val (.int p4), .val (.long q5), .second, .val (.int (3 : Int32)), .val (.int su), .val (.int rr), .val (.int cq), .val (.ref b72), .val (.int t)] [(.int cq), (.int (224 : Int32)), (.int t), (.ref b72)]))
          refine own_Fin.step (fun _ => XS.bipush X85.here hx rfl (hb hby at_244)) ?_
          show own_Fin p e below s _ _ _ (T85.setTop (mkF m 246 #[.val (.int p1), .val (.int p2), .val (.int p3), .val (.int p4), .val (.long q5), .second, .val (.int (3 : Int32)), .val (.int su), .val (.int rr), .val (.int cq), .val (.ref b72), .val (.int t)] [(.int (12 : Int32)), (.int cq), (.int (224 : Int32)), (.int t), (.ref b72)]))
          refine own_Fin.step (fun _ => XS.iushr X85.here hx rfl (hb hby at_246) rfl) ?_
          show own_Fin p e below s _ _ _ (T85.setTop (mkF m 247 #[.val (.int p1), .val (.int p2), .val (.int p3), .val (.int p4), .val (.long q5), .second, .val (.int (3 : Int32)), .val (.int su), .val (.int rr), .val (.int cq), .val (.ref b72), .val (.int t)] [(.int ((cq.toUInt32 >>> ((12 : Int32) &&& 31).toUInt32).toInt32)), (.int (224 : Int32)), (.int t), (.ref b72)]))
          refine own_Fin.step (fun _ => XS.ior X85.here hx rfl (hb hby at_247) rfl) ?_
          show own_Fin p e below s _ _ _ (T85.setTop (mkF m 248 #[.val (.int p1), .val (.int p2), .val (.int p3), .val (.int p4), .val (.long q5), .second, .val (.int (3 : Int32)), .val (.int su), .val (.int rr), .val (.int cq), .val (.ref b72), .val (.int t)] [(.int ((224 : Int32) ||| ((cq.toUInt32 >>> ((12 : Int32) &&& 31).toUInt32).toInt32))), (.int t), (.ref b72)]))
          refine own_Fin.step (fun _ => XS.i2b X85.here hx rfl (hb hby at_248) rfl) ?_
          show own_Fin p e below s _ _ _ (T85.setTop (mkF m 249 #[.val (.int p1), .val (.int p2), .val (.int p3), .val (.int p4), .val (.long q5), .second, .val (.int (3 : Int32)), .val (.int su), .val (.int rr), .val (.int cq), .val (.ref b72), .val (.int t)] [(.int (((224 : Int32) ||| ((cq.toUInt32 >>> ((12 : Int32) &&& 31).toUInt32).toInt32)).toInt8.toInt32)), (.int t), (.ref b72)]))
          obtain ⟨T87, h87, X87, e87, V87, W87, st87⟩ := own_stFB X85 hx hZ e85 V85 (j := t) (own_ix0 ht (by decide)) (g := (mkF m 249 #[.val (.int p1), .val (.int p2), .val (.int p3), .val (.int p4), .val (.long q5), .second, .val (.int (3 : Int32)), .val (.int su), .val (.int rr), .val (.int cq), .val (.ref b72), .val (.int t)] [(.int (((224 : Int32) ||| ((cq.toUInt32 >>> ((12 : Int32) &&& 31).toUInt32).toInt32)).toInt8.toInt32)), (.int t), (.ref b72)])) rfl rfl (hb hby at_249)
          have N87 := Fr.snoc X87 N85 ge73
          have Z87 : n0 ≤ h87.size := Nat.le_trans Z85 (Nat.le_of_eq W87.size.symm)
          refine own_Fin.step st87 ?_
          show own_Fin p e below s _ _ _ (T87.setTop (mkF m 250 #[.val (.int p1), .val (.int p2), .val (.int p3), .val (.int p4), .val (.long q5), .second, .val (.int (3 : Int32)), .val (.int su), .val (.int rr), .val (.int cq), .val (.ref b72), .val (.int t)] []))
          refine own_Fin.step (fun _ => XS.aload X87.here hx rfl (hb hby at_250) rfl rfl) ?_
          show own_Fin p e below s _ _ _ (T87.setTop (mkF m 252 #[.val (.int p1), .val (.int p2), .val (.int p3), .val (.int p4), .val (.long q5), .second, .val (.int (3 : Int32)), .val (.int su), .val (.int rr), .val (.int cq), .val (.ref b72), .val (.int t)] [(.ref b72)]))
          refine own_Fin.step (fun _ => XS.iload X87.here hx rfl (hb hby at_252) rfl) ?_
          show own_Fin p e below s _ _ _ (T87.setTop (mkF m 254 #[.val (.int p1), .val (.int p2), .val (.int p3), .val (.int p4), .val (.long q5), .second, .val (.int (3 : Int32)), .val (.int su), .val (.int rr), .val (.int cq), .val (.ref b72), .val (.int t)] [(.int t), (.ref b72)]))
          refine own_Fin.step (fun _ => XS.iconst X87.here hx rfl (hb hby at_254)) ?_
          show own_Fin p e below s _ _ _ (T87.setTop (mkF m 255 #[.val (.int p1), .val (.int p2), .val (.int p3), .val (.int p4), .val (.long q5), .second, .val (.int (3 : Int32)), .val (.int su), .val (.int rr), .val (.int cq), .val (.ref b72), .val (.int t)] [(.int (1 : Int32)), (.int t), (.ref b72)]))
          refine own_Fin.step (fun _ => XS.iadd X87.here hx rfl (hb hby at_255) rfl) ?_
          show own_Fin p e below s _ _ _ (T87.setTop (mkF m 256 #[.val (.int p1), .val (.int p2), .val (.int p3), .val (.int p4), .val (.long q5), .second, .val (.int (3 : Int32)), .val (.int su), .val (.int rr), .val (.int cq), .val (.ref b72), .val (.int t)] [(.int (t + (1 : Int32))), (.ref b72)]))
          refine own_Fin.step (fun _ => XS.sipush X87.here hx rfl (hb hby at_256)) ?_
          show own_Fin p e below s _ _ _ (T87.setTop (mkF m 259 #[.val (.int p1), .val (.int p2), .val (.int p3), .val (.int p4), .val (.long q5), .second, .val (.int (3 : Int32)), .val (.int su), .val (.int rr), .val (.int cq), .val (.ref b72), .val (.int t)] [(.int (128 : Int32)), (.int (t + (1 : Int32))), (.ref b72)]))
          refine own_Fin.step (fun _ => XS.iload X87.here hx rfl (hb hby at_259) rfl) ?_
          show own_Fin p e below s _ _ _ (T87.setTop (mkF m 261 #[.val (.int p1), .val (.int p2), .val (.int p3), .val (.int p4), .val (.long q5), .second, .val (.int (3 : Int32)), .val (.int su), .val (.int rr), .val (.int cq), .val (.ref b72), .val (.int t)] [(.int cq), (.int (128 : Int32)), (.int (t + (1 : Int32))), (.ref b72)]))
          refine own_Fin.step (fun _ => XS.bipush X87.here hx rfl (hb hby at_261)) ?_
          show own_Fin p e below s _ _ _ (T87.setTop (mkF m 263 #[.val (.int p1), .val (.int p2), .val (.int p3), .val (.int p4), .val (.long q5), .second, .val (.int (3 : Int32)), .val (.int su), .val (.int rr), .val (.int cq), .val (.ref b72), .val (.int t)] [(.int (6 : Int32)), (.int cq), (.int (128 : Int32)), (.int (t + (1 : Int32))), (.ref b72)]))
          refine own_Fin.step (fun _ => XS.iushr X87.here hx rfl (hb hby at_263) rfl) ?_
          show own_Fin p e below s _ _ _ (T87.setTop (mkF m 264 #[.val (.int p1), .val (.int p2), .val (.int p3), .val (.int p4), .val (.long q5), .second, .val (.int (3 : Int32)), .val (.int su), .val (.int rr), .val (.int cq), .val (.ref b72), .val (.int t)] [(.int ((cq.toUInt32 >>> ((6 : Int32) &&& 31).toUInt32).toInt32)), (.int (128 : Int32)), (.int (t + (1 : Int32))), (.ref b72)]))
          refine own_Fin.step (fun _ => XS.bipush X87.here hx rfl (hb hby at_264)) ?_
          show own_Fin p e below s _ _ _ (T87.setTop (mkF m 266 #[.val (.int p1), .val (.int p2), .val (.int p3), .val (.int p4), .val (.long q5), .second, .val (.int (3 : Int32)), .val (.int su), .val (.int rr), .val (.int cq), .val (.ref b72), .val (.int t)] [(.int (63 : Int32)), (.int ((cq.toUInt32 >>> ((6 : Int32) &&& 31).toUInt32).toInt32)), (.int (128 : Int32)), (.int (t + (1 : Int32))), (.ref b72)]))
          refine own_Fin.step (fun _ => XS.iand X87.here hx rfl (hb hby at_266) rfl) ?_
          show own_Fin p e below s _ _ _ (T87.setTop (mkF m 267 #[.val (.int p1), .val (.int p2), .val (.int p3), .val (.int p4), .val (.long q5), .second, .val (.int (3 : Int32)), .val (.int su), .val (.int rr), .val (.int cq), .val (.ref b72), .val (.int t)] [(.int (((cq.toUInt32 >>> ((6 : Int32) &&& 31).toUInt32).toInt32) &&& (63 : Int32))), (.int (128 : Int32)), (.int (t + (1 : Int32))), (.ref b72)]))
          refine own_Fin.step (fun _ => XS.ior X87.here hx rfl (hb hby at_267) rfl) ?_
          show own_Fin p e below s _ _ _ (T87.setTop (mkF m 268 #[.val (.int p1), .val (.int p2), .val (.int p3), .val (.int p4), .val (.long q5), .second, .val (.int (3 : Int32)), .val (.int su), .val (.int rr), .val (.int cq), .val (.ref b72), .val (.int t)] [(.int ((128 : Int32) ||| (((cq.toUInt32 >>> ((6 : Int32) &&& 31).toUInt32).toInt32) &&& (63 : Int32)))), (.int (t + (1 : Int32))), (.ref b72)]))
          refine own_Fin.step (fun _ => XS.i2b X87.here hx rfl (hb hby at_268) rfl) ?_
          show own_Fin p e below s _ _ _ (T87.setTop (mkF m 269 #[.val (.int p1), .val (.int p2), .val (.int p3), .val (.int p4), .val (.long q5), .second, .val (.int (3 : Int32)), .val (.int su), .val (.int rr), .val (.int cq), .val (.ref b72), .val (.int t)] [(.int (((128 : Int32) ||| (((cq.toUInt32 >>> ((6 : Int32) &&& 31).toUInt32).toInt32) &&& (63 : Int32))).toInt8.toInt32)), (.int (t + (1 : Int32))), (.ref b72)]))
          obtain ⟨T89, h89, X89, e89, V89, W89, st89⟩ := own_stFB X87 hx hZ e87 V87 (j := (t + (1 : Int32))) (own_ix (i := 1) (iv := 1) (by decide) ht (by decide) (by decide)).1 (g := (mkF m 269 #[.val (.int p1), .val (.int p2), .val (.int p3), .val (.int p4), .val (.long q5), .second, .val (.int (3 : Int32)), .val (.int su), .val (.int rr), .val (.int cq), .val (.ref b72), .val (.int t)] [(.int (((128 : Int32) ||| (((cq.toUInt32 >>> ((6 : Int32) &&& 31).toUInt32).toInt32) &&& (63 : Int32))).toInt8.toInt32)), (.int (t + (1 : Int32))), (.ref b72)])) rfl rfl (hb hby at_269)
          have N89 := Fr.snoc X89 N87 ge73
          have Z89 : n0 ≤ h89.size := Nat.le_trans Z87 (Nat.le_of_eq W89.size.symm)
          refine own_Fin.step st89 ?_
          show own_Fin p e below s _ _ _ (T89.setTop (mkF m 270 #[.val (.int p1), .val (.int p2), .val (.int p3), .val (.int p4), .val (.long q5), .second, .val (.int (3 : Int32)), .val (.int su), .val (.int rr), .val (.int cq), .val (.ref b72), .val (.int t)] []))
          refine own_Fin.step (fun _ => XS.aload X89.here hx rfl (hb hby at_270) rfl rfl) ?_
          show own_Fin p e below s _ _ _ (T89.setTop (mkF m 272 #[.val (.int p1), .val (.int p2), .val (.int p3), .val (.int p4), .val (.long q5), .second, .val (.int (3 : Int32)), .val (.int su), .val (.int rr), .val (.int cq), .val (.ref b72), .val (.int t)] [(.ref b72)]))
          refine own_Fin.step (fun _ => XS.iload X89.here hx rfl (hb hby at_272) rfl) ?_
          show own_Fin p e below s _ _ _ (T89.setTop (mkF m 274 #[.val (.int p1), .val (.int p2), .val (.int p3), .val (.int p4), .val (.long q5), .second, .val (.int (3 : Int32)), .val (.int su), .val (.int rr), .val (.int cq), .val (.ref b72), .val (.int t)] [(.int t), (.ref b72)]))
          refine own_Fin.step (fun _ => XS.iconst X89.here hx rfl (hb hby at_274)) ?_
          show own_Fin p e below s _ _ _ (T89.setTop (mkF m 275 #[.val (.int p1), .val (.int p2), .val (.int p3), .val (.int p4), .val (.long q5), .second, .val (.int (3 : Int32)), .val (.int su), .val (.int rr), .val (.int cq), .val (.ref b72), .val (.int t)] [(.int (2 : Int32)), (.int t), (.ref b72)]))
          refine own_Fin.step (fun _ => XS.iadd X89.here hx rfl (hb hby at_275) rfl) ?_
          show own_Fin p e below s _ _ _ (T89.setTop (mkF m 276 #[.val (.int p1), .val (.int p2), .val (.int p3), .val (.int p4), .val (.long q5), .second, .val (.int (3 : Int32)), .val (.int su), .val (.int rr), .val (.int cq), .val (.ref b72), .val (.int t)] [(.int (t + (2 : Int32))), (.ref b72)]))
          refine own_Fin.step (fun _ => XS.sipush X89.here hx rfl (hb hby at_276)) ?_
          show own_Fin p e below s _ _ _ (T89.setTop (mkF m 279 #[.val (.int p1), .val (.int p2), .val (.int p3), .val (.int p4), .val (.long q5), .second, .val (.int (3 : Int32)), .val (.int su), .val (.int rr), .val (.int cq), .val (.ref b72), .val (.int t)] [(.int (128 : Int32)), (.int (t + (2 : Int32))), (.ref b72)]))
          refine own_Fin.step (fun _ => XS.iload X89.here hx rfl (hb hby at_279) rfl) ?_
          show own_Fin p e below s _ _ _ (T89.setTop (mkF m 281 #[.val (.int p1), .val (.int p2), .val (.int p3), .val (.int p4), .val (.long q5), .second, .val (.int (3 : Int32)), .val (.int su), .val (.int rr), .val (.int cq), .val (.ref b72), .val (.int t)] [(.int cq), (.int (128 : Int32)), (.int (t + (2 : Int32))), (.ref b72)]))
          refine own_Fin.step (fun _ => XS.bipush X89.here hx rfl (hb hby at_281)) ?_
          show own_Fin p e below s _ _ _ (T89.setTop (mkF m 283 #[.val (.int p1), .val (.int p2), .val (.int p3), .val (.int p4), .val (.long q5), .second, .val (.int (3 : Int32)), .val (.int su), .val (.int rr), .val (.int cq), .val (.ref b72), .val (.int t)] [(.int (63 : Int32)), (.int cq), (.int (128 : Int32)), (.int (t + (2 : Int32))), (.ref b72)]))
          refine own_Fin.step (fun _ => XS.iand X89.here hx rfl (hb hby at_283) rfl) ?_
          show own_Fin p e below s _ _ _ (T89.setTop (mkF m 284 #[.val (.int p1), .val (.int p2), .val (.int p3), .val (.int p4), .val (.long q5), .second, .val (.int (3 : Int32)), .val (.int su), .val (.int rr), .val (.int cq), .val (.ref b72), .val (.int t)] [(.int (cq &&& (63 : Int32))), (.int (128 : Int32)), (.int (t + (2 : Int32))), (.ref b72)]))
          refine own_Fin.step (fun _ => XS.ior X89.here hx rfl (hb hby at_284) rfl) ?_
          show own_Fin p e below s _ _ _ (T89.setTop (mkF m 285 #[.val (.int p1), .val (.int p2), .val (.int p3), .val (.int p4), .val (.long q5), .second, .val (.int (3 : Int32)), .val (.int su), .val (.int rr), .val (.int cq), .val (.ref b72), .val (.int t)] [(.int ((128 : Int32) ||| (cq &&& (63 : Int32)))), (.int (t + (2 : Int32))), (.ref b72)]))
          refine own_Fin.step (fun _ => XS.i2b X89.here hx rfl (hb hby at_285) rfl) ?_
          show own_Fin p e below s _ _ _ (T89.setTop (mkF m 286 #[.val (.int p1), .val (.int p2), .val (.int p3), .val (.int p4), .val (.long q5), .second, .val (.int (3 : Int32)), .val (.int su), .val (.int rr), .val (.int cq), .val (.ref b72), .val (.int t)] [(.int (((128 : Int32) ||| (cq &&& (63 : Int32))).toInt8.toInt32)), (.int (t + (2 : Int32))), (.ref b72)]))
          obtain ⟨T91, h91, X91, e91, V91, W91, st91⟩ := own_stFB X89 hx hZ e89 V89 (j := (t + (2 : Int32))) (own_ix (i := 2) (iv := 2) (by decide) ht (by decide) (by decide)).1 (g := (mkF m 286 #[.val (.int p1), .val (.int p2), .val (.int p3), .val (.int p4), .val (.long q5), .second, .val (.int (3 : Int32)), .val (.int su), .val (.int rr), .val (.int cq), .val (.ref b72), .val (.int t)] [(.int (((128 : Int32) ||| (cq &&& (63 : Int32))).toInt8.toInt32)), (.int (t + (2 : Int32))), (.ref b72)])) rfl rfl (hb hby at_286)
          have N91 := Fr.snoc X91 N89 ge73
          have Z91 : n0 ≤ h91.size := Nat.le_trans Z89 (Nat.le_of_eq W91.size.symm)
          refine own_Fin.step st91 ?_
          show own_Fin p e below s _ _ _ (T91.setTop (mkF m 287 #[.val (.int p1), .val (.int p2), .val (.int p3), .val (.int p4), .val (.long q5), .second, .val (.int (3 : Int32)), .val (.int su), .val (.int rr), .val (.int cq), .val (.ref b72), .val (.int t)] []))
          refine own_Fin.step (fun _ => XS.goto X91.here hx rfl (pc0 := 287) (pc' := 362) rfl (hb hby at_287) (by decide) (by decide)) ?_
          show own_Fin p e below s _ _ _ (T91.setTop (mkF m 362 #[.val (.int p1), .val (.int p2), .val (.int p3), .val (.int p4), .val (.long q5), .second, .val (.int (3 : Int32)), .val (.int su), .val (.int rr), .val (.int cq), .val (.ref b72), .val (.int t)] []))
          refine own_Fin.step (fun _ => XS.aload X91.here hx rfl (hb hby at_362) rfl rfl) ?_
          show own_Fin p e below s _ _ _ (T91.setTop (mkF m 364 #[.val (.int p1), .val (.int p2), .val (.int p3), .val (.int p4), .val (.long q5), .second, .val (.int (3 : Int32)), .val (.int su), .val (.int rr), .val (.int cq), .val (.ref b72), .val (.int t)] [(.ref b72)]))
          refine own_Fin.step (fun _ => XS.iload X91.here hx rfl (hb hby at_364) rfl) ?_
          show own_Fin p e below s _ _ _ (T91.setTop (mkF m 366 #[.val (.int p1), .val (.int p2), .val (.int p3), .val (.int p4), .val (.long q5), .second, .val (.int (3 : Int32)), .val (.int su), .val (.int rr), .val (.int cq), .val (.ref b72), .val (.int t)] [(.int t), (.ref b72)]))
          refine own_Fin.step (fun _ => XS.iload X91.here hx rfl (hb hby at_366) rfl) ?_
          show own_Fin p e below s _ _ _ (T91.setTop (mkF m 368 #[.val (.int p1), .val (.int p2), .val (.int p3), .val (.int p4), .val (.long q5), .second, .val (.int (3 : Int32)), .val (.int su), .val (.int rr), .val (.int cq), .val (.ref b72), .val (.int t)] [(.int (3 : Int32)), (.int t), (.ref b72)]))
          refine own_Fin.step (fun _ => XS.iload X91.here hx rfl (hb hby at_368) rfl) ?_
          show own_Fin p e below s _ _ _ (T91.setTop (mkF m 370 #[.val (.int p1), .val (.int p2), .val (.int p3), .val (.int p4), .val (.long q5), .second, .val (.int (3 : Int32)), .val (.int su), .val (.int rr), .val (.int cq), .val (.ref b72), .val (.int t)] [(.int su), (.int (3 : Int32)), (.int t), (.ref b72)]))
          obtain ⟨_, T93, L93, X93, ⟨rfl, N93q, e93⟩, st93⟩ := own_callS X91 hx hZ hown (own_w hw 2 rfl) (own_w hw 3 rfl) (own_w hw 4 rfl) (own_w hw 5 rfl) (by decide) (rm3b l Z a0 hw b72 t su k72 (own_upd (own_upd (own_upd (own_upd (own_upd (own_upd (own_upd (own_upd (own_upd (fun _ => (0 : Int32)) ((0 : Int32)).toNatClampNeg (nar .byte ((q5.toInt32).toInt8.toInt32))) ((1 : Int32)).toNatClampNeg (nar .byte ((((q5.toUInt64 >>> ((8 : Int32) &&& 0x3f).toInt64.toUInt64).toInt64).toInt32).toInt8.toInt32))) ((2 : Int32)).toNatClampNeg (nar .byte ((((q5.toUInt64 >>> ((16 : Int32) &&& 0x3f).toInt64.toUInt64).toInt64).toInt32).toInt8.toInt32))) ((3 : Int32)).toNatClampNeg (nar .byte ((((q5.toUInt64 >>> ((24 : Int32) &&& 0x3f).toInt64.toUInt64).toInt64).toInt32).toInt8.toInt32))) ((4 : Int32)).toNatClampNeg (nar .byte ((((q5.toUInt64 >>> ((32 : Int32) &&& 0x3f).toInt64.toUInt64).toInt64).toInt32).toInt8.toInt32))) ((5 : Int32)).toNatClampNeg (nar .byte ((((q5.toUInt64 >>> ((40 : Int32) &&& 0x3f).toInt64.toUInt64).toInt64).toInt32).toInt8.toInt32))) (t).toNatClampNeg (nar .byte (((224 : Int32) ||| ((cq.toUInt32 >>> ((12 : Int32) &&& 31).toUInt32).toInt32)).toInt8.toInt32))) ((t + (1 : Int32))).toNatClampNeg (nar .byte (((128 : Int32) ||| (((cq.toUInt32 >>> ((6 : Int32) &&& 31).toUInt32).toInt32) &&& (63 : Int32))).toInt8.toInt32))) ((t + (2 : Int32))).toNatClampNeg (nar .byte (((128 : Int32) ||| (cq &&& (63 : Int32))).toInt8.toInt32))) (nar .byte (((224 : Int32) ||| ((cq.toUInt32 >>> ((12 : Int32) &&& 31).toUInt32).toInt32)).toInt8.toInt32)) (nar .byte (((128 : Int32) ||| (((cq.toUInt32 >>> ((6 : Int32) &&& 31).toUInt32).toInt32) &&& (63 : Int32))).toInt8.toInt32)) (nar .byte (((128 : Int32) ||| (cq &&& (63 : Int32))).toInt8.toInt32)) cq h91 n0 Z91 V91 (own_ix0 ht (by decide)) (own_ix (i := 1) (iv := 1) (by decide) ht (by decide) (by decide)).1 (own_ix (i := 2) (iv := 2) (by decide) ht (by decide) (by decide)).1 (by simp [own_upd, nx1, nx2]) (by simp [own_upd, nx1, nx2]) (by simp [own_upd, nx1, nx2]) (own_dec3 cq (⟨hcq.1, hcq.2.1⟩ : 2048 ≤ cq.toInt ∧ cq.toInt < 65536).1 (⟨hcq.1, hcq.2.1⟩ : 2048 ≤ cq.toInt ∧ cq.toInt < 65536).2).2.1 (own_dec3 cq (⟨hcq.1, hcq.2.1⟩ : 2048 ≤ cq.toInt ∧ cq.toInt < 65536).1 (⟨hcq.1, hcq.2.1⟩ : 2048 ≤ cq.toInt ∧ cq.toInt < 65536).2).2.2  (own_dec3 cq (⟨hcq.1, hcq.2.1⟩ : 2048 ≤ cq.toInt ∧ cq.toInt < 65536).1 (⟨hcq.1, hcq.2.1⟩ : 2048 ≤ cq.toInt ∧ cq.toInt < 65536).2).1 (own_nlt (d := 2048) (by decide) (⟨hcq.1, hcq.2.1⟩ : 2048 ≤ cq.toInt ∧ cq.toInt < 65536).1) hsr) (by decide) (by decide) e91 (W := 0) (g := (mkF m 370 #[.val (.int p1), .val (.int p2), .val (.int p3), .val (.int p4), .val (.long q5), .second, .val (.int (3 : Int32)), .val (.int su), .val (.int rr), .val (.int cq), .val (.ref b72), .val (.int t)] [(.int su), (.int (3 : Int32)), (.int t), (.ref b72)])) rfl (by rw [hml]; rfl) (argsL := [(.ref b72), (.int t), (.int (3 : Int32)), (.int su)]) (rest := []) (lenOf pd_2 rfl) rfl rfl (by show 2 * 0 + _ ≤ _; exact Nat.le_of_eq rfl) (hb hby at_370) (by decide) (by decide)
          have N93 := Fr.app N91 N93q
          refine own_Fin.step st93 ?_
          show own_Fin p e below s _ _ _ (T93.setTop (mkF m 373 #[.val (.int p1), .val (.int p2), .val (.int p3), .val (.int p4), .val (.long q5), .second, .val (.int (3 : Int32)), .val (.int su), .val (.int rr), .val (.int cq), .val (.ref b72), .val (.int t)] [(.int cq)]))
          refine own_Fin.step (fun _ => XS.iload X93.here hx rfl (hb hby at_373) rfl) ?_
          show own_Fin p e below s _ _ _ (T93.setTop (mkF m 375 #[.val (.int p1), .val (.int p2), .val (.int p3), .val (.int p4), .val (.long q5), .second, .val (.int (3 : Int32)), .val (.int su), .val (.int rr), .val (.int cq), .val (.ref b72), .val (.int t)] [(.int cq), (.int cq)]))
          refine own_Fin.step (fun _ => XS.icmpNo X93.here hx rfl (hb hby at_375) rfl (XT.ii_ne_f (rfl : cq = cq))) ?_
          show own_Fin p e below s _ _ _ (T93.setTop (mkF m 378 #[.val (.int p1), .val (.int p2), .val (.int p3), .val (.int p4), .val (.long q5), .second, .val (.int (3 : Int32)), .val (.int su), .val (.int rr), .val (.int cq), .val (.ref b72), .val (.int t)] []))
          refine own_Fin.step (fun _ => XS.iconst X93.here hx rfl (hb hby at_378)) ?_
          show own_Fin p e below s _ _ _ (T93.setTop (mkF m 379 #[.val (.int p1), .val (.int p2), .val (.int p3), .val (.int p4), .val (.long q5), .second, .val (.int (3 : Int32)), .val (.int su), .val (.int rr), .val (.int cq), .val (.ref b72), .val (.int t)] [(.int (1 : Int32))]))
          refine own_Fin.step (fun _ => XS.goto X93.here hx rfl (pc0 := 379) (pc' := 383) rfl (hb hby at_379) (by decide) (by decide)) ?_
          show own_Fin p e below s _ _ _ (T93.setTop (mkF m 383 #[.val (.int p1), .val (.int p2), .val (.int p3), .val (.int p4), .val (.long q5), .second, .val (.int (3 : Int32)), .val (.int su), .val (.int rr), .val (.int cq), .val (.ref b72), .val (.int t)] [(.int (1 : Int32))]))
          exact own_retN X93 hx hlk (t := .boolean) hret (by simp) (hb hby at_383) ⟨rfl, N93⟩ (by decide) (by decide)
    ·
      refine own_Fin.step (fun _ => XS.ifYes X0.here hx rfl (pc0 := 69) (pc' := 107) rfl (hb hby at_69) rfl (XT.i0_ne_t hc69_25) (by decide) (by decide)) ?_
      show own_Fin p e below s _ _ _ (s₁.setTop (mkF m 107 #[.val (.int p1), .val (.int p2), .val (.int p3), .val (.int p4), .val (.long q5), .second, .val (.int (3 : Int32)), .val (.int su), .val (.int rr), .val (.int cp), .unset, .unset] []))
      have hsr : su = 0 → own_sur (cp.toUInt32.toUInt16.toUInt32.toInt32) = 0 := fun q => absurd q hc69_25
      refine own_Fin.step (fun _ => XS.bipush X0.here hx rfl (hb hby at_107)) ?_
      show own_Fin p e below s _ _ _ (s₁.setTop (mkF m 109 #[.val (.int p1), .val (.int p2), .val (.int p3), .val (.int p4), .val (.long q5), .second, .val (.int (3 : Int32)), .val (.int su), .val (.int rr), .val (.int cp), .unset, .unset] [(.int (6 : Int32))]))
      obtain ⟨T94, h94, k94, b94, X94, e94, E94, g94, V94, st94⟩ := own_newA X0 hx hZ (own_w hw 1 rfl) e0 (ty := .byte) (dv := (.int (0 : Int32))) rfl rfl (g := (mkF m 109 #[.val (.int p1), .val (.int p2), .val (.int p3), .val (.int p4), .val (.long q5), .second, .val (.int (3 : Int32)), .val (.int su), .val (.int rr), .val (.int cp), .unset, .unset] [(.int (6 : Int32))])) rfl (hb hby at_109) rfl (by decide) (cap := 6) (by decide) (by decide) (by decide) (by decide) (6)
      have ge95 : n0 ≤ b94 := Nat.le_trans Z0 (Nat.le_of_eq g94.symm)
      have Z94 : n0 ≤ h94.size := Nat.le_trans Z0 E94.1
      have V94' : Arv Z h94 b94 k94 .byte (6 : Int32) [(.int (0 : Int32)), (.int (0 : Int32)), (.int (0 : Int32)), (.int (0 : Int32)), (.int (0 : Int32)), (.int (0 : Int32))] (.int (0 : Int32)) := V94
      refine own_Fin.step st94 ?_
      show own_Fin p e below s _ _ _ (T94.setTop (mkF m 111 #[.val (.int p1), .val (.int p2), .val (.int p3), .val (.int p4), .val (.long q5), .second, .val (.int (3 : Int32)), .val (.int su), .val (.int rr), .val (.int cp), .unset, .unset] [(.ref b94)]))
      have Vf96 := own_Arf.of (N := 6) V94'
      refine own_Fin.step (fun _ => XS.astore X94.here hx rfl (hb hby at_111) rfl rfl (l' := #[.val (.int p1), .val (.int p2), .val (.int p3), .val (.int p4), .val (.long q5), .second, .val (.int (3 : Int32)), .val (.int su), .val (.int rr), .val (.int cp), .val (.ref b94), .unset]) rfl) ?_
      show own_Fin p e below s _ _ _ (T94.setTop (mkF m 113 #[.val (.int p1), .val (.int p2), .val (.int p3), .val (.int p4), .val (.long q5), .second, .val (.int (3 : Int32)), .val (.int su), .val (.int rr), .val (.int cp), .val (.ref b94), .unset] []))
      refine own_Fin.step (fun _ => XS.aload X94.here hx rfl (hb hby at_113) rfl rfl) ?_
      show own_Fin p e below s _ _ _ (T94.setTop (mkF m 115 #[.val (.int p1), .val (.int p2), .val (.int p3), .val (.int p4), .val (.long q5), .second, .val (.int (3 : Int32)), .val (.int su), .val (.int rr), .val (.int cp), .val (.ref b94), .unset] [(.ref b94)]))
      refine own_Fin.step (fun _ => XS.iconst X94.here hx rfl (hb hby at_115)) ?_
      show own_Fin p e below s _ _ _ (T94.setTop (mkF m 116 #[.val (.int p1), .val (.int p2), .val (.int p3), .val (.int p4), .val (.long q5), .second, .val (.int (3 : Int32)), .val (.int su), .val (.int rr), .val (.int cp), .val (.ref b94), .unset] [(.int (0 : Int32)), (.ref b94)]))
      refine own_Fin.step (fun _ => XS.lload X94.here hx rfl (hb hby at_116) rfl) ?_
      show own_Fin p e below s _ _ _ (T94.setTop (mkF m 118 #[.val (.int p1), .val (.int p2), .val (.int p3), .val (.int p4), .val (.long q5), .second, .val (.int (3 : Int32)), .val (.int su), .val (.int rr), .val (.int cp), .val (.ref b94), .unset] [(.long q5), (.int (0 : Int32)), (.ref b94)]))
      refine own_Fin.step (fun _ => XS.l2i X94.here hx rfl (hb hby at_118) rfl) ?_
      show own_Fin p e below s _ _ _ (T94.setTop (mkF m 119 #[.val (.int p1), .val (.int p2), .val (.int p3), .val (.int p4), .val (.long q5), .second, .val (.int (3 : Int32)), .val (.int su), .val (.int rr), .val (.int cp), .val (.ref b94), .unset] [(.int (q5.toInt32)), (.int (0 : Int32)), (.ref b94)]))
      refine own_Fin.step (fun _ => XS.i2b X94.here hx rfl (hb hby at_119) rfl) ?_
      show own_Fin p e below s _ _ _ (T94.setTop (mkF m 120 #[.val (.int p1), .val (.int p2), .val (.int p3), .val (.int p4), .val (.long q5), .second, .val (.int (3 : Int32)), .val (.int su), .val (.int rr), .val (.int cp), .val (.ref b94), .unset] [(.int ((q5.toInt32).toInt8.toInt32)), (.int (0 : Int32)), (.ref b94)]))
      obtain ⟨T97, h97, X97, e97, V97, W97, st97⟩ := own_stFB X94 hx hZ e94 Vf96 (j := (0 : Int32)) ⟨by decide, by decide⟩ (g := (mkF m 120 #[.val (.int p1), .val (.int p2), .val (.int p3), .val (.int p4), .val (.long q5), .second, .val (.int (3 : Int32)), .val (.int su), .val (.int rr), .val (.int cp), .val (.ref b94), .unset] [(.int ((q5.toInt32).toInt8.toInt32)), (.int (0 : Int32)), (.ref b94)])) rfl rfl (hb hby at_120)
      have N97 := Fr.snoc X97 N0 ge95
      have Z97 : n0 ≤ h97.size := Nat.le_trans Z94 (Nat.le_of_eq W97.size.symm)
      refine own_Fin.step st97 ?_
      show own_Fin p e below s _ _ _ (T97.setTop (mkF m 121 #[.val (.int p1), .val (.int p2), .val (.int p3), .val (.int p4), .val (.long q5), .second, .val (.int (3 : Int32)), .val (.int su), .val (.int rr), .val (.int cp), .val (.ref b94), .unset] []))
      refine own_Fin.step (fun _ => XS.aload X97.here hx rfl (hb hby at_121) rfl rfl) ?_
      show own_Fin p e below s _ _ _ (T97.setTop (mkF m 123 #[.val (.int p1), .val (.int p2), .val (.int p3), .val (.int p4), .val (.long q5), .second, .val (.int (3 : Int32)), .val (.int su), .val (.int rr), .val (.int cp), .val (.ref b94), .unset] [(.ref b94)]))
      refine own_Fin.step (fun _ => XS.iconst X97.here hx rfl (hb hby at_123)) ?_
      show own_Fin p e below s _ _ _ (T97.setTop (mkF m 124 #[.val (.int p1), .val (.int p2), .val (.int p3), .val (.int p4), .val (.long q5), .second, .val (.int (3 : Int32)), .val (.int su), .val (.int rr), .val (.int cp), .val (.ref b94), .unset] [(.int (1 : Int32)), (.ref b94)]))
      refine own_Fin.step (fun _ => XS.lload X97.here hx rfl (hb hby at_124) rfl) ?_
      show own_Fin p e below s _ _ _ (T97.setTop (mkF m 126 #[.val (.int p1), .val (.int p2), .val (.int p3), .val (.int p4), .val (.long q5), .second, .val (.int (3 : Int32)), .val (.int su), .val (.int rr), .val (.int cp), .val (.ref b94), .unset] [(.long q5), (.int (1 : Int32)), (.ref b94)]))
      refine own_Fin.step (fun _ => XS.bipush X97.here hx rfl (hb hby at_126)) ?_
      show own_Fin p e below s _ _ _ (T97.setTop (mkF m 128 #[.val (.int p1), .val (.int p2), .val (.int p3), .val (.int p4), .val (.long q5), .second, .val (.int (3 : Int32)), .val (.int su), .val (.int rr), .val (.int cp), .val (.ref b94), .unset] [(.int (8 : Int32)), (.long q5), (.int (1 : Int32)), (.ref b94)]))
      refine own_Fin.step (fun _ => XS.lushr X97.here hx rfl (hb hby at_128) rfl) ?_
      show own_Fin p e below s _ _ _ (T97.setTop (mkF m 129 #[.val (.int p1), .val (.int p2), .val (.int p3), .val (.int p4), .val (.long q5), .second, .val (.int (3 : Int32)), .val (.int su), .val (.int rr), .val (.int cp), .val (.ref b94), .unset] [(.long ((q5.toUInt64 >>> ((8 : Int32) &&& 0x3f).toInt64.toUInt64).toInt64)), (.int (1 : Int32)), (.ref b94)]))
      refine own_Fin.step (fun _ => XS.l2i X97.here hx rfl (hb hby at_129) rfl) ?_
      show own_Fin p e below s _ _ _ (T97.setTop (mkF m 130 #[.val (.int p1), .val (.int p2), .val (.int p3), .val (.int p4), .val (.long q5), .second, .val (.int (3 : Int32)), .val (.int su), .val (.int rr), .val (.int cp), .val (.ref b94), .unset] [(.int (((q5.toUInt64 >>> ((8 : Int32) &&& 0x3f).toInt64.toUInt64).toInt64).toInt32)), (.int (1 : Int32)), (.ref b94)]))
      refine own_Fin.step (fun _ => XS.i2b X97.here hx rfl (hb hby at_130) rfl) ?_
      show own_Fin p e below s _ _ _ (T97.setTop (mkF m 131 #[.val (.int p1), .val (.int p2), .val (.int p3), .val (.int p4), .val (.long q5), .second, .val (.int (3 : Int32)), .val (.int su), .val (.int rr), .val (.int cp), .val (.ref b94), .unset] [(.int ((((q5.toUInt64 >>> ((8 : Int32) &&& 0x3f).toInt64.toUInt64).toInt64).toInt32).toInt8.toInt32)), (.int (1 : Int32)), (.ref b94)]))
      obtain ⟨T99, h99, X99, e99, V99, W99, st99⟩ := own_stFB X97 hx hZ e97 V97 (j := (1 : Int32)) ⟨by decide, by decide⟩ (g := (mkF m 131 #[.val (.int p1), .val (.int p2), .val (.int p3), .val (.int p4), .val (.long q5), .second, .val (.int (3 : Int32)), .val (.int su), .val (.int rr), .val (.int cp), .val (.ref b94), .unset] [(.int ((((q5.toUInt64 >>> ((8 : Int32) &&& 0x3f).toInt64.toUInt64).toInt64).toInt32).toInt8.toInt32)), (.int (1 : Int32)), (.ref b94)])) rfl rfl (hb hby at_131)
      have N99 := Fr.snoc X99 N97 ge95
      have Z99 : n0 ≤ h99.size := Nat.le_trans Z97 (Nat.le_of_eq W99.size.symm)
      refine own_Fin.step st99 ?_
      show own_Fin p e below s _ _ _ (T99.setTop (mkF m 132 #[.val (.int p1), .val (.int p2), .val (.int p3), .val (.int p4), .val (.long q5), .second, .val (.int (3 : Int32)), .val (.int su), .val (.int rr), .val (.int cp), .val (.ref b94), .unset] []))
      refine own_Fin.step (fun _ => XS.aload X99.here hx rfl (hb hby at_132) rfl rfl) ?_
      show own_Fin p e below s _ _ _ (T99.setTop (mkF m 134 #[.val (.int p1), .val (.int p2), .val (.int p3), .val (.int p4), .val (.long q5), .second, .val (.int (3 : Int32)), .val (.int su), .val (.int rr), .val (.int cp), .val (.ref b94), .unset] [(.ref b94)]))
      refine own_Fin.step (fun _ => XS.iconst X99.here hx rfl (hb hby at_134)) ?_
      show own_Fin p e below s _ _ _ (T99.setTop (mkF m 135 #[.val (.int p1), .val (.int p2), .val (.int p3), .val (.int p4), .val (.long q5), .second, .val (.int (3 : Int32)), .val (.int su), .val (.int rr), .val (.int cp), .val (.ref b94), .unset] [(.int (2 : Int32)), (.ref b94)]))
      refine own_Fin.step (fun _ => XS.lload X99.here hx rfl (hb hby at_135) rfl) ?_
      show own_Fin p e below s _ _ _ (T99.setTop (mkF m 137 #[.val (.int p1), .val (.int p2), .val (.int p3), .val (.int p4), .val (.long q5), .second, .val (.int (3 : Int32)), .val (.int su), .val (.int rr), .val (.int cp), .val (.ref b94), .unset] [(.long q5), (.int (2 : Int32)), (.ref b94)]))
      refine own_Fin.step (fun _ => XS.bipush X99.here hx rfl (hb hby at_137)) ?_
      show own_Fin p e below s _ _ _ (T99.setTop (mkF m 139 #[.val (.int p1), .val (.int p2), .val (.int p3), .val (.int p4), .val (.long q5), .second, .val (.int (3 : Int32)), .val (.int su), .val (.int rr), .val (.int cp), .val (.ref b94), .unset] [(.int (16 : Int32)), (.long q5), (.int (2 : Int32)), (.ref b94)]))
      refine own_Fin.step (fun _ => XS.lushr X99.here hx rfl (hb hby at_139) rfl) ?_
      show own_Fin p e below s _ _ _ (T99.setTop (mkF m 140 #[.val (.int p1), .val (.int p2), .val (.int p3), .val (.int p4), .val (.long q5), .second, .val (.int (3 : Int32)), .val (.int su), .val (.int rr), .val (.int cp), .val (.ref b94), .unset] [(.long ((q5.toUInt64 >>> ((16 : Int32) &&& 0x3f).toInt64.toUInt64).toInt64)), (.int (2 : Int32)), (.ref b94)]))
      refine own_Fin.step (fun _ => XS.l2i X99.here hx rfl (hb hby at_140) rfl) ?_
      show own_Fin p e below s _ _ _ (T99.setTop (mkF m 141 #[.val (.int p1), .val (.int p2), .val (.int p3), .val (.int p4), .val (.long q5), .second, .val (.int (3 : Int32)), .val (.int su), .val (.int rr), .val (.int cp), .val (.ref b94), .unset] [(.int (((q5.toUInt64 >>> ((16 : Int32) &&& 0x3f).toInt64.toUInt64).toInt64).toInt32)), (.int (2 : Int32)), (.ref b94)]))
      refine own_Fin.step (fun _ => XS.i2b X99.here hx rfl (hb hby at_141) rfl) ?_
      show own_Fin p e below s _ _ _ (T99.setTop (mkF m 142 #[.val (.int p1), .val (.int p2), .val (.int p3), .val (.int p4), .val (.long q5), .second, .val (.int (3 : Int32)), .val (.int su), .val (.int rr), .val (.int cp), .val (.ref b94), .unset] [(.int ((((q5.toUInt64 >>> ((16 : Int32) &&& 0x3f).toInt64.toUInt64).toInt64).toInt32).toInt8.toInt32)), (.int (2 : Int32)), (.ref b94)]))
      obtain ⟨T101, h101, X101, e101, V101, W101, st101⟩ := own_stFB X99 hx hZ e99 V99 (j := (2 : Int32)) ⟨by decide, by decide⟩ (g := (mkF m 142 #[.val (.int p1), .val (.int p2), .val (.int p3), .val (.int p4), .val (.long q5), .second, .val (.int (3 : Int32)), .val (.int su), .val (.int rr), .val (.int cp), .val (.ref b94), .unset] [(.int ((((q5.toUInt64 >>> ((16 : Int32) &&& 0x3f).toInt64.toUInt64).toInt64).toInt32).toInt8.toInt32)), (.int (2 : Int32)), (.ref b94)])) rfl rfl (hb hby at_142)
      have N101 := Fr.snoc X101 N99 ge95
      have Z101 : n0 ≤ h101.size := Nat.le_trans Z99 (Nat.le_of_eq W101.size.symm)
      refine own_Fin.step st101 ?_
      show own_Fin p e below s _ _ _ (T101.setTop (mkF m 143 #[.val (.int p1), .val (.int p2), .val (.int p3), .val (.int p4), .val (.long q5), .second, .val (.int (3 : Int32)), .val (.int su), .val (.int rr), .val (.int cp), .val (.ref b94), .unset] []))
      refine own_Fin.step (fun _ => XS.aload X101.here hx rfl (hb hby at_143) rfl rfl) ?_
      show own_Fin p e below s _ _ _ (T101.setTop (mkF m 145 #[.val (.int p1), .val (.int p2), .val (.int p3), .val (.int p4), .val (.long q5), .second, .val (.int (3 : Int32)), .val (.int su), .val (.int rr), .val (.int cp), .val (.ref b94), .unset] [(.ref b94)]))
      refine own_Fin.step (fun _ => XS.iconst X101.here hx rfl (hb hby at_145)) ?_
      show own_Fin p e below s _ _ _ (T101.setTop (mkF m 146 #[.val (.int p1), .val (.int p2), .val (.int p3), .val (.int p4), .val (.long q5), .second, .val (.int (3 : Int32)), .val (.int su), .val (.int rr), .val (.int cp), .val (.ref b94), .unset] [(.int (3 : Int32)), (.ref b94)]))
      refine own_Fin.step (fun _ => XS.lload X101.here hx rfl (hb hby at_146) rfl) ?_
      show own_Fin p e below s _ _ _ (T101.setTop (mkF m 148 #[.val (.int p1), .val (.int p2), .val (.int p3), .val (.int p4), .val (.long q5), .second, .val (.int (3 : Int32)), .val (.int su), .val (.int rr), .val (.int cp), .val (.ref b94), .unset] [(.long q5), (.int (3 : Int32)), (.ref b94)]))
      refine own_Fin.step (fun _ => XS.bipush X101.here hx rfl (hb hby at_148)) ?_
      show own_Fin p e below s _ _ _ (T101.setTop (mkF m 150 #[.val (.int p1), .val (.int p2), .val (.int p3), .val (.int p4), .val (.long q5), .second, .val (.int (3 : Int32)), .val (.int su), .val (.int rr), .val (.int cp), .val (.ref b94), .unset] [(.int (24 : Int32)), (.long q5), (.int (3 : Int32)), (.ref b94)]))
      refine own_Fin.step (fun _ => XS.lushr X101.here hx rfl (hb hby at_150) rfl) ?_
      show own_Fin p e below s _ _ _ (T101.setTop (mkF m 151 #[.val (.int p1), .val (.int p2), .val (.int p3), .val (.int p4), .val (.long q5), .second, .val (.int (3 : Int32)), .val (.int su), .val (.int rr), .val (.int cp), .val (.ref b94), .unset] [(.long ((q5.toUInt64 >>> ((24 : Int32) &&& 0x3f).toInt64.toUInt64).toInt64)), (.int (3 : Int32)), (.ref b94)]))
      refine own_Fin.step (fun _ => XS.l2i X101.here hx rfl (hb hby at_151) rfl) ?_
      show own_Fin p e below s _ _ _ (T101.setTop (mkF m 152 #[.val (.int p1), .val (.int p2), .val (.int p3), .val (.int p4), .val (.long q5), .second, .val (.int (3 : Int32)), .val (.int su), .val (.int rr), .val (.int cp), .val (.ref b94), .unset] [(.int (((q5.toUInt64 >>> ((24 : Int32) &&& 0x3f).toInt64.toUInt64).toInt64).toInt32)), (.int (3 : Int32)), (.ref b94)]))
      refine own_Fin.step (fun _ => XS.i2b X101.here hx rfl (hb hby at_152) rfl) ?_
      show own_Fin p e below s _ _ _ (T101.setTop (mkF m 153 #[.val (.int p1), .val (.int p2), .val (.int p3), .val (.int p4), .val (.long q5), .second, .val (.int (3 : Int32)), .val (.int su), .val (.int rr), .val (.int cp), .val (.ref b94), .unset] [(.int ((((q5.toUInt64 >>> ((24 : Int32) &&& 0x3f).toInt64.toUInt64).toInt64).toInt32).toInt8.toInt32)), (.int (3 : Int32)), (.ref b94)]))
      obtain ⟨T103, h103, X103, e103, V103, W103, st103⟩ := own_stFB X101 hx hZ e101 V101 (j := (3 : Int32)) ⟨by decide, by decide⟩ (g := (mkF m 153 #[.val (.int p1), .val (.int p2), .val (.int p3), .val (.int p4), .val (.long q5), .second, .val (.int (3 : Int32)), .val (.int su), .val (.int rr), .val (.int cp), .val (.ref b94), .unset] [(.int ((((q5.toUInt64 >>> ((24 : Int32) &&& 0x3f).toInt64.toUInt64).toInt64).toInt32).toInt8.toInt32)), (.int (3 : Int32)), (.ref b94)])) rfl rfl (hb hby at_153)
      have N103 := Fr.snoc X103 N101 ge95
      have Z103 : n0 ≤ h103.size := Nat.le_trans Z101 (Nat.le_of_eq W103.size.symm)
      refine own_Fin.step st103 ?_
      show own_Fin p e below s _ _ _ (T103.setTop (mkF m 154 #[.val (.int p1), .val (.int p2), .val (.int p3), .val (.int p4), .val (.long q5), .second, .val (.int (3 : Int32)), .val (.int su), .val (.int rr), .val (.int cp), .val (.ref b94), .unset] []))
      refine own_Fin.step (fun _ => XS.aload X103.here hx rfl (hb hby at_154) rfl rfl) ?_
      show own_Fin p e below s _ _ _ (T103.setTop (mkF m 156 #[.val (.int p1), .val (.int p2), .val (.int p3), .val (.int p4), .val (.long q5), .second, .val (.int (3 : Int32)), .val (.int su), .val (.int rr), .val (.int cp), .val (.ref b94), .unset] [(.ref b94)]))
      refine own_Fin.step (fun _ => XS.iconst X103.here hx rfl (hb hby at_156)) ?_
      show own_Fin p e below s _ _ _ (T103.setTop (mkF m 157 #[.val (.int p1), .val (.int p2), .val (.int p3), .val (.int p4), .val (.long q5), .second, .val (.int (3 : Int32)), .val (.int su), .val (.int rr), .val (.int cp), .val (.ref b94), .unset] [(.int (4 : Int32)), (.ref b94)]))
      refine own_Fin.step (fun _ => XS.lload X103.here hx rfl (hb hby at_157) rfl) ?_
      show own_Fin p e below s _ _ _ (T103.setTop (mkF m 159 #[.val (.int p1), .val (.int p2), .val (.int p3), .val (.int p4), .val (.long q5), .second, .val (.int (3 : Int32)), .val (.int su), .val (.int rr), .val (.int cp), .val (.ref b94), .unset] [(.long q5), (.int (4 : Int32)), (.ref b94)]))
      refine own_Fin.step (fun _ => XS.bipush X103.here hx rfl (hb hby at_159)) ?_
      show own_Fin p e below s _ _ _ (T103.setTop (mkF m 161 #[.val (.int p1), .val (.int p2), .val (.int p3), .val (.int p4), .val (.long q5), .second, .val (.int (3 : Int32)), .val (.int su), .val (.int rr), .val (.int cp), .val (.ref b94), .unset] [(.int (32 : Int32)), (.long q5), (.int (4 : Int32)), (.ref b94)]))
      refine own_Fin.step (fun _ => XS.lushr X103.here hx rfl (hb hby at_161) rfl) ?_
      show own_Fin p e below s _ _ _ (T103.setTop (mkF m 162 #[.val (.int p1), .val (.int p2), .val (.int p3), .val (.int p4), .val (.long q5), .second, .val (.int (3 : Int32)), .val (.int su), .val (.int rr), .val (.int cp), .val (.ref b94), .unset] [(.long ((q5.toUInt64 >>> ((32 : Int32) &&& 0x3f).toInt64.toUInt64).toInt64)), (.int (4 : Int32)), (.ref b94)]))
      refine own_Fin.step (fun _ => XS.l2i X103.here hx rfl (hb hby at_162) rfl) ?_
      show own_Fin p e below s _ _ _ (T103.setTop (mkF m 163 #[.val (.int p1), .val (.int p2), .val (.int p3), .val (.int p4), .val (.long q5), .second, .val (.int (3 : Int32)), .val (.int su), .val (.int rr), .val (.int cp), .val (.ref b94), .unset] [(.int (((q5.toUInt64 >>> ((32 : Int32) &&& 0x3f).toInt64.toUInt64).toInt64).toInt32)), (.int (4 : Int32)), (.ref b94)]))
      refine own_Fin.step (fun _ => XS.i2b X103.here hx rfl (hb hby at_163) rfl) ?_
      show own_Fin p e below s _ _ _ (T103.setTop (mkF m 164 #[.val (.int p1), .val (.int p2), .val (.int p3), .val (.int p4), .val (.long q5), .second, .val (.int (3 : Int32)), .val (.int su), .val (.int rr), .val (.int cp), .val (.ref b94), .unset] [(.int ((((q5.toUInt64 >>> ((32 : Int32) &&& 0x3f).toInt64.toUInt64).toInt64).toInt32).toInt8.toInt32)), (.int (4 : Int32)), (.ref b94)]))
      obtain ⟨T105, h105, X105, e105, V105, W105, st105⟩ := own_stFB X103 hx hZ e103 V103 (j := (4 : Int32)) ⟨by decide, by decide⟩ (g := (mkF m 164 #[.val (.int p1), .val (.int p2), .val (.int p3), .val (.int p4), .val (.long q5), .second, .val (.int (3 : Int32)), .val (.int su), .val (.int rr), .val (.int cp), .val (.ref b94), .unset] [(.int ((((q5.toUInt64 >>> ((32 : Int32) &&& 0x3f).toInt64.toUInt64).toInt64).toInt32).toInt8.toInt32)), (.int (4 : Int32)), (.ref b94)])) rfl rfl (hb hby at_164)
      have N105 := Fr.snoc X105 N103 ge95
      have Z105 : n0 ≤ h105.size := Nat.le_trans Z103 (Nat.le_of_eq W105.size.symm)
      refine own_Fin.step st105 ?_
      show own_Fin p e below s _ _ _ (T105.setTop (mkF m 165 #[.val (.int p1), .val (.int p2), .val (.int p3), .val (.int p4), .val (.long q5), .second, .val (.int (3 : Int32)), .val (.int su), .val (.int rr), .val (.int cp), .val (.ref b94), .unset] []))
      refine own_Fin.step (fun _ => XS.aload X105.here hx rfl (hb hby at_165) rfl rfl) ?_
      show own_Fin p e below s _ _ _ (T105.setTop (mkF m 167 #[.val (.int p1), .val (.int p2), .val (.int p3), .val (.int p4), .val (.long q5), .second, .val (.int (3 : Int32)), .val (.int su), .val (.int rr), .val (.int cp), .val (.ref b94), .unset] [(.ref b94)]))
      refine own_Fin.step (fun _ => XS.iconst X105.here hx rfl (hb hby at_167)) ?_
      show own_Fin p e below s _ _ _ (T105.setTop (mkF m 168 #[.val (.int p1), .val (.int p2), .val (.int p3), .val (.int p4), .val (.long q5), .second, .val (.int (3 : Int32)), .val (.int su), .val (.int rr), .val (.int cp), .val (.ref b94), .unset] [(.int (5 : Int32)), (.ref b94)]))
      refine own_Fin.step (fun _ => XS.lload X105.here hx rfl (hb hby at_168) rfl) ?_
      show own_Fin p e below s _ _ _ (T105.setTop (mkF m 170 #[.val (.int p1), .val (.int p2), .val (.int p3), .val (.int p4), .val (.long q5), .second, .val (.int (3 : Int32)), .val (.int su), .val (.int rr), .val (.int cp), .val (.ref b94), .unset] [(.long q5), (.int (5 : Int32)), (.ref b94)]))
      refine own_Fin.step (fun _ => XS.bipush X105.here hx rfl (hb hby at_170)) ?_
      show own_Fin p e below s _ _ _ (T105.setTop (mkF m 172 #[.val (.int p1), .val (.int p2), .val (.int p3), .val (.int p4), .val (.long q5), .second, .val (.int (3 : Int32)), .val (.int su), .val (.int rr), .val (.int cp), .val (.ref b94), .unset] [(.int (40 : Int32)), (.long q5), (.int (5 : Int32)), (.ref b94)]))
      refine own_Fin.step (fun _ => XS.lushr X105.here hx rfl (hb hby at_172) rfl) ?_
      show own_Fin p e below s _ _ _ (T105.setTop (mkF m 173 #[.val (.int p1), .val (.int p2), .val (.int p3), .val (.int p4), .val (.long q5), .second, .val (.int (3 : Int32)), .val (.int su), .val (.int rr), .val (.int cp), .val (.ref b94), .unset] [(.long ((q5.toUInt64 >>> ((40 : Int32) &&& 0x3f).toInt64.toUInt64).toInt64)), (.int (5 : Int32)), (.ref b94)]))
      refine own_Fin.step (fun _ => XS.l2i X105.here hx rfl (hb hby at_173) rfl) ?_
      show own_Fin p e below s _ _ _ (T105.setTop (mkF m 174 #[.val (.int p1), .val (.int p2), .val (.int p3), .val (.int p4), .val (.long q5), .second, .val (.int (3 : Int32)), .val (.int su), .val (.int rr), .val (.int cp), .val (.ref b94), .unset] [(.int (((q5.toUInt64 >>> ((40 : Int32) &&& 0x3f).toInt64.toUInt64).toInt64).toInt32)), (.int (5 : Int32)), (.ref b94)]))
      refine own_Fin.step (fun _ => XS.i2b X105.here hx rfl (hb hby at_174) rfl) ?_
      show own_Fin p e below s _ _ _ (T105.setTop (mkF m 175 #[.val (.int p1), .val (.int p2), .val (.int p3), .val (.int p4), .val (.long q5), .second, .val (.int (3 : Int32)), .val (.int su), .val (.int rr), .val (.int cp), .val (.ref b94), .unset] [(.int ((((q5.toUInt64 >>> ((40 : Int32) &&& 0x3f).toInt64.toUInt64).toInt64).toInt32).toInt8.toInt32)), (.int (5 : Int32)), (.ref b94)]))
      obtain ⟨T107, h107, X107, e107, V107, W107, st107⟩ := own_stFB X105 hx hZ e105 V105 (j := (5 : Int32)) ⟨by decide, by decide⟩ (g := (mkF m 175 #[.val (.int p1), .val (.int p2), .val (.int p3), .val (.int p4), .val (.long q5), .second, .val (.int (3 : Int32)), .val (.int su), .val (.int rr), .val (.int cp), .val (.ref b94), .unset] [(.int ((((q5.toUInt64 >>> ((40 : Int32) &&& 0x3f).toInt64.toUInt64).toInt64).toInt32).toInt8.toInt32)), (.int (5 : Int32)), (.ref b94)])) rfl rfl (hb hby at_175)
      have N107 := Fr.snoc X107 N105 ge95
      have Z107 : n0 ≤ h107.size := Nat.le_trans Z105 (Nat.le_of_eq W107.size.symm)
      refine own_Fin.step st107 ?_
      show own_Fin p e below s _ _ _ (T107.setTop (mkF m 176 #[.val (.int p1), .val (.int p2), .val (.int p3), .val (.int p4), .val (.long q5), .second, .val (.int (3 : Int32)), .val (.int su), .val (.int rr), .val (.int cp), .val (.ref b94), .unset] []))
      refine own_Fin.step (fun _ => XS.iloadN X107.here hx rfl (hb hby at_176) rfl) ?_
      show own_Fin p e below s _ _ _ (T107.setTop (mkF m 177 #[.val (.int p1), .val (.int p2), .val (.int p3), .val (.int p4), .val (.long q5), .second, .val (.int (3 : Int32)), .val (.int su), .val (.int rr), .val (.int cp), .val (.ref b94), .unset] [(.int p4)]))
      refine own_Fin.step (X107.ldcInt hx hown (mvT hZ (own_w hw 0 rfl)) (g := (mkF m 177 #[.val (.int p1), .val (.int p2), .val (.int p3), .val (.int p4), .val (.long q5), .second, .val (.int (3 : Int32)), .val (.int su), .val (.int rr), .val (.int cp), .val (.ref b94), .unset] [(.int p4)])) rfl (hb hby at_177)) ?_
      show own_Fin p e below s _ _ _ (T107.setTop (mkF m 179 #[.val (.int p1), .val (.int p2), .val (.int p3), .val (.int p4), .val (.long q5), .second, .val (.int (3 : Int32)), .val (.int su), .val (.int rr), .val (.int cp), .val (.ref b94), .unset] [(.int (2147483647 : Int32)), (.int p4)]))
      refine own_Fin.step (fun _ => XS.iand X107.here hx rfl (hb hby at_179) rfl) ?_
      show own_Fin p e below s _ _ _ (T107.setTop (mkF m 180 #[.val (.int p1), .val (.int p2), .val (.int p3), .val (.int p4), .val (.long q5), .second, .val (.int (3 : Int32)), .val (.int su), .val (.int rr), .val (.int cp), .val (.ref b94), .unset] [(.int (p4 &&& (2147483647 : Int32)))]))
      refine own_Fin.step (fun _ => XS.bipush X107.here hx rfl (hb hby at_180)) ?_
      show own_Fin p e below s _ _ _ (T107.setTop (mkF m 182 #[.val (.int p1), .val (.int p2), .val (.int p3), .val (.int p4), .val (.long q5), .second, .val (.int (3 : Int32)), .val (.int su), .val (.int rr), .val (.int cp), .val (.ref b94), .unset] [(.int (7 : Int32)), (.int (p4 &&& (2147483647 : Int32)))]))
      refine own_Fin.step (fun _ => XS.iload X107.here hx rfl (hb hby at_182) rfl) ?_
      show own_Fin p e below s _ _ _ (T107.setTop (mkF m 184 #[.val (.int p1), .val (.int p2), .val (.int p3), .val (.int p4), .val (.long q5), .second, .val (.int (3 : Int32)), .val (.int su), .val (.int rr), .val (.int cp), .val (.ref b94), .unset] [(.int (3 : Int32)), (.int (7 : Int32)), (.int (p4 &&& (2147483647 : Int32)))]))
      refine own_Fin.step (fun _ => XS.isub X107.here hx rfl (hb hby at_184) rfl) ?_
      show own_Fin p e below s _ _ _ (T107.setTop (mkF m 185 #[.val (.int p1), .val (.int p2), .val (.int p3), .val (.int p4), .val (.long q5), .second, .val (.int (3 : Int32)), .val (.int su), .val (.int rr), .val (.int cp), .val (.ref b94), .unset] [(.int (4 : Int32)), (.int (p4 &&& (2147483647 : Int32)))]))
      refine own_Fin.step (fun _ => Jvm.RoadKit.iremM X107 hx rfl (hb hby at_185) rfl (by decide)) ?_
      show own_Fin p e below s _ _ _ (T107.setTop (mkF m 186 #[.val (.int p1), .val (.int p2), .val (.int p3), .val (.int p4), .val (.long q5), .second, .val (.int (3 : Int32)), .val (.int su), .val (.int rr), .val (.int cp), .val (.ref b94), .unset] [(.int ((p4 &&& (2147483647 : Int32)) % (4 : Int32)))]))
      generalize ht0 : ((p4 &&& (2147483647 : Int32)) % (4 : Int32)) = t
      have ht : 0 ≤ t.toInt ∧ t.toInt < 4 := ht0 ▸ own_rem (d := 4) (by decide) (own_nn p4) (by decide)
      have nx1 := (own_ix (t := t) (i := 1) (iv := 1) (by decide) ht (by decide) (by decide)).2
      have nx2 := (own_ix (t := t) (i := 2) (iv := 2) (by decide) ht (by decide) (by decide)).2
      refine own_Fin.step (fun _ => XS.istore X107.here hx rfl (hb hby at_186) rfl (l' := #[.val (.int p1), .val (.int p2), .val (.int p3), .val (.int p4), .val (.long q5), .second, .val (.int (3 : Int32)), .val (.int su), .val (.int rr), .val (.int cp), .val (.ref b94), .val (.int t)]) rfl) ?_
      show own_Fin p e below s _ _ _ (T107.setTop (mkF m 188 #[.val (.int p1), .val (.int p2), .val (.int p3), .val (.int p4), .val (.long q5), .second, .val (.int (3 : Int32)), .val (.int su), .val (.int rr), .val (.int cp), .val (.ref b94), .val (.int t)] []))
      refine own_Fin.step (fun _ => XS.iload X107.here hx rfl (hb hby at_188) rfl) ?_
      show own_Fin p e below s _ _ _ (T107.setTop (mkF m 190 #[.val (.int p1), .val (.int p2), .val (.int p3), .val (.int p4), .val (.long q5), .second, .val (.int (3 : Int32)), .val (.int su), .val (.int rr), .val (.int cp), .val (.ref b94), .val (.int t)] [(.int (3 : Int32))]))
      refine own_Fin.step (fun _ => XS.iconst X107.here hx rfl (hb hby at_190)) ?_
      show own_Fin p e below s _ _ _ (T107.setTop (mkF m 191 #[.val (.int p1), .val (.int p2), .val (.int p3), .val (.int p4), .val (.long q5), .second, .val (.int (3 : Int32)), .val (.int su), .val (.int rr), .val (.int cp), .val (.ref b94), .val (.int t)] [(.int (2 : Int32)), (.int (3 : Int32))]))
      refine own_Fin.step (fun _ => XS.icmpYes X107.here hx rfl (pc0 := 191) (pc' := 229) rfl (hb hby at_191) rfl (XT.ii_ne_t (by decide : ¬ ((3 : Int32) = (2 : Int32)))) (by decide) (by decide)) ?_
      show own_Fin p e below s _ _ _ (T107.setTop (mkF m 229 #[.val (.int p1), .val (.int p2), .val (.int p3), .val (.int p4), .val (.long q5), .second, .val (.int (3 : Int32)), .val (.int su), .val (.int rr), .val (.int cp), .val (.ref b94), .val (.int t)] []))
      refine own_Fin.step (fun _ => XS.iload X107.here hx rfl (hb hby at_229) rfl) ?_
      show own_Fin p e below s _ _ _ (T107.setTop (mkF m 231 #[.val (.int p1), .val (.int p2), .val (.int p3), .val (.int p4), .val (.long q5), .second, .val (.int (3 : Int32)), .val (.int su), .val (.int rr), .val (.int cp), .val (.ref b94), .val (.int t)] [(.int (3 : Int32))]))
      refine own_Fin.step (fun _ => XS.iconst X107.here hx rfl (hb hby at_231)) ?_
      show own_Fin p e below s _ _ _ (T107.setTop (mkF m 232 #[.val (.int p1), .val (.int p2), .val (.int p3), .val (.int p4), .val (.long q5), .second, .val (.int (3 : Int32)), .val (.int su), .val (.int rr), .val (.int cp), .val (.ref b94), .val (.int t)] [(.int (3 : Int32)), (.int (3 : Int32))]))
      refine own_Fin.step (fun _ => XS.icmpNo X107.here hx rfl (hb hby at_232) rfl (XT.ii_ne_f (by decide : (3 : Int32) = (3 : Int32)))) ?_
      show own_Fin p e below s _ _ _ (T107.setTop (mkF m 235 #[.val (.int p1), .val (.int p2), .val (.int p3), .val (.int p4), .val (.long q5), .second, .val (.int (3 : Int32)), .val (.int su), .val (.int rr), .val (.int cp), .val (.ref b94), .val (.int t)] []))
      refine own_Fin.step (fun _ => XS.aload X107.here hx rfl (hb hby at_235) rfl rfl) ?_
      show own_Fin p e below s _ _ _ (T107.setTop (mkF m 237 #[.val (.int p1), .val (.int p2), .val (.int p3), .val (.int p4), .val (.long q5), .second, .val (.int (3 : Int32)), .val (.int su), .val (.int rr), .val (.int cp), .val (.ref b94), .val (.int t)] [(.ref b94)]))
      refine own_Fin.step (fun _ => XS.iload X107.here hx rfl (hb hby at_237) rfl) ?_
      show own_Fin p e below s _ _ _ (T107.setTop (mkF m 239 #[.val (.int p1), .val (.int p2), .val (.int p3), .val (.int p4), .val (.long q5), .second, .val (.int (3 : Int32)), .val (.int su), .val (.int rr), .val (.int cp), .val (.ref b94), .val (.int t)] [(.int t), (.ref b94)]))
      refine own_Fin.step (fun _ => XS.sipush X107.here hx rfl (hb hby at_239)) ?_
      show own_Fin p e below s _ _ _ (T107.setTop (mkF m 242 #[.val (.int p1), .val (.int p2), .val (.int p3), .val (.int p4), .val (.long q5), .second, .val (.int (3 : Int32)), .val (.int su), .val (.int rr), .val (.int cp), .val (.ref b94), .val (.int t)] [(.int (224 : Int32)), (.int t), (.ref b94)]))
      refine own_Fin.step (fun _ => XS.iload X107.here hx rfl (hb hby at_242) rfl) ?_
      show own_Fin p e below s _ _ _ (T107.setTop (mkF m 244 #[.val (.int p1), .val (.int p2), .val (.int p3), .val (.int p4), .val (.long q5), .second, .val (.int (3 : Int32)), .val (.int su), .val (.int rr), .val (.int cp), .val (.ref b94), .val (.int t)] [(.int cp), (.int (224 : Int32)), (.int t), (.ref b94)]))
      refine own_Fin.step (fun _ => XS.bipush X107.here hx rfl (hb hby at_244)) ?_
      show own_Fin p e below s _ _ _ (T107.setTop (mkF m 246 #[.val (.int p1), .val (.int p2), .val (.int p3), .val (.int p4), .val (.long q5), .second, .val (.int (3 : Int32)), .val (.int su), .val (.int rr), .val (.int cp), .val (.ref b94), .val (.int t)] [(.int (12 : Int32)), (.int cp), (.int (224 : Int32)), (.int t), (.ref b94)]))
      refine own_Fin.step (fun _ => XS.iushr X107.here hx rfl (hb hby at_246) rfl) ?_
      show own_Fin p e below s _ _ _ (T107.setTop (mkF m 247 #[.val (.int p1), .val (.int p2), .val (.int p3), .val (.int p4), .val (.long q5), .second, .val (.int (3 : Int32)), .val (.int su), .val (.int rr), .val (.int cp), .val (.ref b94), .val (.int t)] [(.int ((cp.toUInt32 >>> ((12 : Int32) &&& 31).toUInt32).toInt32)), (.int (224 : Int32)), (.int t), (.ref b94)]))
      refine own_Fin.step (fun _ => XS.ior X107.here hx rfl (hb hby at_247) rfl) ?_
      show own_Fin p e below s _ _ _ (T107.setTop (mkF m 248 #[.val (.int p1), .val (.int p2), .val (.int p3), .val (.int p4), .val (.long q5), .second, .val (.int (3 : Int32)), .val (.int su), .val (.int rr), .val (.int cp), .val (.ref b94), .val (.int t)] [(.int ((224 : Int32) ||| ((cp.toUInt32 >>> ((12 : Int32) &&& 31).toUInt32).toInt32))), (.int t), (.ref b94)]))
      refine own_Fin.step (fun _ => XS.i2b X107.here hx rfl (hb hby at_248) rfl) ?_
      show own_Fin p e below s _ _ _ (T107.setTop (mkF m 249 #[.val (.int p1), .val (.int p2), .val (.int p3), .val (.int p4), .val (.long q5), .second, .val (.int (3 : Int32)), .val (.int su), .val (.int rr), .val (.int cp), .val (.ref b94), .val (.int t)] [(.int (((224 : Int32) ||| ((cp.toUInt32 >>> ((12 : Int32) &&& 31).toUInt32).toInt32)).toInt8.toInt32)), (.int t), (.ref b94)]))
      obtain ⟨T109, h109, X109, e109, V109, W109, st109⟩ := own_stFB X107 hx hZ e107 V107 (j := t) (own_ix0 ht (by decide)) (g := (mkF m 249 #[.val (.int p1), .val (.int p2), .val (.int p3), .val (.int p4), .val (.long q5), .second, .val (.int (3 : Int32)), .val (.int su), .val (.int rr), .val (.int cp), .val (.ref b94), .val (.int t)] [(.int (((224 : Int32) ||| ((cp.toUInt32 >>> ((12 : Int32) &&& 31).toUInt32).toInt32)).toInt8.toInt32)), (.int t), (.ref b94)])) rfl rfl (hb hby at_249)
      have N109 := Fr.snoc X109 N107 ge95
      have Z109 : n0 ≤ h109.size := Nat.le_trans Z107 (Nat.le_of_eq W109.size.symm)
      refine own_Fin.step st109 ?_
      show own_Fin p e below s _ _ _ (T109.setTop (mkF m 250 #[.val (.int p1), .val (.int p2), .val (.int p3), .val (.int p4), .val (.long q5), .second, .val (.int (3 : Int32)), .val (.int su), .val (.int rr), .val (.int cp), .val (.ref b94), .val (.int t)] []))
      refine own_Fin.step (fun _ => XS.aload X109.here hx rfl (hb hby at_250) rfl rfl) ?_
      show own_Fin p e below s _ _ _ (T109.setTop (mkF m 252 #[.val (.int p1), .val (.int p2), .val (.int p3), .val (.int p4), .val (.long q5), .second, .val (.int (3 : Int32)), .val (.int su), .val (.int rr), .val (.int cp), .val (.ref b94), .val (.int t)] [(.ref b94)]))
      refine own_Fin.step (fun _ => XS.iload X109.here hx rfl (hb hby at_252) rfl) ?_
      show own_Fin p e below s _ _ _ (T109.setTop (mkF m 254 #[.val (.int p1), .val (.int p2), .val (.int p3), .val (.int p4), .val (.long q5), .second, .val (.int (3 : Int32)), .val (.int su), .val (.int rr), .val (.int cp), .val (.ref b94), .val (.int t)] [(.int t), (.ref b94)]))
      refine own_Fin.step (fun _ => XS.iconst X109.here hx rfl (hb hby at_254)) ?_
      show own_Fin p e below s _ _ _ (T109.setTop (mkF m 255 #[.val (.int p1), .val (.int p2), .val (.int p3), .val (.int p4), .val (.long q5), .second, .val (.int (3 : Int32)), .val (.int su), .val (.int rr), .val (.int cp), .val (.ref b94), .val (.int t)] [(.int (1 : Int32)), (.int t), (.ref b94)]))
      refine own_Fin.step (fun _ => XS.iadd X109.here hx rfl (hb hby at_255) rfl) ?_
      show own_Fin p e below s _ _ _ (T109.setTop (mkF m 256 #[.val (.int p1), .val (.int p2), .val (.int p3), .val (.int p4), .val (.long q5), .second, .val (.int (3 : Int32)), .val (.int su), .val (.int rr), .val (.int cp), .val (.ref b94), .val (.int t)] [(.int (t + (1 : Int32))), (.ref b94)]))
      refine own_Fin.step (fun _ => XS.sipush X109.here hx rfl (hb hby at_256)) ?_
      show own_Fin p e below s _ _ _ (T109.setTop (mkF m 259 #[.val (.int p1), .val (.int p2), .val (.int p3), .val (.int p4), .val (.long q5), .second, .val (.int (3 : Int32)), .val (.int su), .val (.int rr), .val (.int cp), .val (.ref b94), .val (.int t)] [(.int (128 : Int32)), (.int (t + (1 : Int32))), (.ref b94)]))
      refine own_Fin.step (fun _ => XS.iload X109.here hx rfl (hb hby at_259) rfl) ?_
      show own_Fin p e below s _ _ _ (T109.setTop (mkF m 261 #[.val (.int p1), .val (.int p2), .val (.int p3), .val (.int p4), .val (.long q5), .second, .val (.int (3 : Int32)), .val (.int su), .val (.int rr), .val (.int cp), .val (.ref b94), .val (.int t)] [(.int cp), (.int (128 : Int32)), (.int (t + (1 : Int32))), (.ref b94)]))
      refine own_Fin.step (fun _ => XS.bipush X109.here hx rfl (hb hby at_261)) ?_
      show own_Fin p e below s _ _ _ (T109.setTop (mkF m 263 #[.val (.int p1), .val (.int p2), .val (.int p3), .val (.int p4), .val (.long q5), .second, .val (.int (3 : Int32)), .val (.int su), .val (.int rr), .val (.int cp), .val (.ref b94), .val (.int t)] [(.int (6 : Int32)), (.int cp), (.int (128 : Int32)), (.int (t + (1 : Int32))), (.ref b94)]))
      refine own_Fin.step (fun _ => XS.iushr X109.here hx rfl (hb hby at_263) rfl) ?_
      show own_Fin p e below s _ _ _ (T109.setTop (mkF m 264 #[.val (.int p1), .val (.int p2), .val (.int p3), .val (.int p4), .val (.long q5), .second, .val (.int (3 : Int32)), .val (.int su), .val (.int rr), .val (.int cp), .val (.ref b94), .val (.int t)] [(.int ((cp.toUInt32 >>> ((6 : Int32) &&& 31).toUInt32).toInt32)), (.int (128 : Int32)), (.int (t + (1 : Int32))), (.ref b94)]))
      refine own_Fin.step (fun _ => XS.bipush X109.here hx rfl (hb hby at_264)) ?_
      show own_Fin p e below s _ _ _ (T109.setTop (mkF m 266 #[.val (.int p1), .val (.int p2), .val (.int p3), .val (.int p4), .val (.long q5), .second, .val (.int (3 : Int32)), .val (.int su), .val (.int rr), .val (.int cp), .val (.ref b94), .val (.int t)] [(.int (63 : Int32)), (.int ((cp.toUInt32 >>> ((6 : Int32) &&& 31).toUInt32).toInt32)), (.int (128 : Int32)), (.int (t + (1 : Int32))), (.ref b94)]))
      refine own_Fin.step (fun _ => XS.iand X109.here hx rfl (hb hby at_266) rfl) ?_
      show own_Fin p e below s _ _ _ (T109.setTop (mkF m 267 #[.val (.int p1), .val (.int p2), .val (.int p3), .val (.int p4), .val (.long q5), .second, .val (.int (3 : Int32)), .val (.int su), .val (.int rr), .val (.int cp), .val (.ref b94), .val (.int t)] [(.int (((cp.toUInt32 >>> ((6 : Int32) &&& 31).toUInt32).toInt32) &&& (63 : Int32))), (.int (128 : Int32)), (.int (t + (1 : Int32))), (.ref b94)]))
      refine own_Fin.step (fun _ => XS.ior X109.here hx rfl (hb hby at_267) rfl) ?_
      show own_Fin p e below s _ _ _ (T109.setTop (mkF m 268 #[.val (.int p1), .val (.int p2), .val (.int p3), .val (.int p4), .val (.long q5), .second, .val (.int (3 : Int32)), .val (.int su), .val (.int rr), .val (.int cp), .val (.ref b94), .val (.int t)] [(.int ((128 : Int32) ||| (((cp.toUInt32 >>> ((6 : Int32) &&& 31).toUInt32).toInt32) &&& (63 : Int32)))), (.int (t + (1 : Int32))), (.ref b94)]))
      refine own_Fin.step (fun _ => XS.i2b X109.here hx rfl (hb hby at_268) rfl) ?_
      show own_Fin p e below s _ _ _ (T109.setTop (mkF m 269 #[.val (.int p1), .val (.int p2), .val (.int p3), .val (.int p4), .val (.long q5), .second, .val (.int (3 : Int32)), .val (.int su), .val (.int rr), .val (.int cp), .val (.ref b94), .val (.int t)] [(.int (((128 : Int32) ||| (((cp.toUInt32 >>> ((6 : Int32) &&& 31).toUInt32).toInt32) &&& (63 : Int32))).toInt8.toInt32)), (.int (t + (1 : Int32))), (.ref b94)]))
      obtain ⟨T111, h111, X111, e111, V111, W111, st111⟩ := own_stFB X109 hx hZ e109 V109 (j := (t + (1 : Int32))) (own_ix (i := 1) (iv := 1) (by decide) ht (by decide) (by decide)).1 (g := (mkF m 269 #[.val (.int p1), .val (.int p2), .val (.int p3), .val (.int p4), .val (.long q5), .second, .val (.int (3 : Int32)), .val (.int su), .val (.int rr), .val (.int cp), .val (.ref b94), .val (.int t)] [(.int (((128 : Int32) ||| (((cp.toUInt32 >>> ((6 : Int32) &&& 31).toUInt32).toInt32) &&& (63 : Int32))).toInt8.toInt32)), (.int (t + (1 : Int32))), (.ref b94)])) rfl rfl (hb hby at_269)
      have N111 := Fr.snoc X111 N109 ge95
      have Z111 : n0 ≤ h111.size := Nat.le_trans Z109 (Nat.le_of_eq W111.size.symm)
      refine own_Fin.step st111 ?_
      show own_Fin p e below s _ _ _ (T111.setTop (mkF m 270 #[.val (.int p1), .val (.int p2), .val (.int p3), .val (.int p4), .val (.long q5), .second, .val (.int (3 : Int32)), .val (.int su), .val (.int rr), .val (.int cp), .val (.ref b94), .val (.int t)] []))
      refine own_Fin.step (fun _ => XS.aload X111.here hx rfl (hb hby at_270) rfl rfl) ?_
      show own_Fin p e below s _ _ _ (T111.setTop (mkF m 272 #[.val (.int p1), .val (.int p2), .val (.int p3), .val (.int p4), .val (.long q5), .second, .val (.int (3 : Int32)), .val (.int su), .val (.int rr), .val (.int cp), .val (.ref b94), .val (.int t)] [(.ref b94)]))
      refine own_Fin.step (fun _ => XS.iload X111.here hx rfl (hb hby at_272) rfl) ?_
      show own_Fin p e below s _ _ _ (T111.setTop (mkF m 274 #[.val (.int p1), .val (.int p2), .val (.int p3), .val (.int p4), .val (.long q5), .second, .val (.int (3 : Int32)), .val (.int su), .val (.int rr), .val (.int cp), .val (.ref b94), .val (.int t)] [(.int t), (.ref b94)]))
      refine own_Fin.step (fun _ => XS.iconst X111.here hx rfl (hb hby at_274)) ?_
      show own_Fin p e below s _ _ _ (T111.setTop (mkF m 275 #[.val (.int p1), .val (.int p2), .val (.int p3), .val (.int p4), .val (.long q5), .second, .val (.int (3 : Int32)), .val (.int su), .val (.int rr), .val (.int cp), .val (.ref b94), .val (.int t)] [(.int (2 : Int32)), (.int t), (.ref b94)]))
      refine own_Fin.step (fun _ => XS.iadd X111.here hx rfl (hb hby at_275) rfl) ?_
      show own_Fin p e below s _ _ _ (T111.setTop (mkF m 276 #[.val (.int p1), .val (.int p2), .val (.int p3), .val (.int p4), .val (.long q5), .second, .val (.int (3 : Int32)), .val (.int su), .val (.int rr), .val (.int cp), .val (.ref b94), .val (.int t)] [(.int (t + (2 : Int32))), (.ref b94)]))
      refine own_Fin.step (fun _ => XS.sipush X111.here hx rfl (hb hby at_276)) ?_
      show own_Fin p e below s _ _ _ (T111.setTop (mkF m 279 #[.val (.int p1), .val (.int p2), .val (.int p3), .val (.int p4), .val (.long q5), .second, .val (.int (3 : Int32)), .val (.int su), .val (.int rr), .val (.int cp), .val (.ref b94), .val (.int t)] [(.int (128 : Int32)), (.int (t + (2 : Int32))), (.ref b94)]))
      refine own_Fin.step (fun _ => XS.iload X111.here hx rfl (hb hby at_279) rfl) ?_
      show own_Fin p e below s _ _ _ (T111.setTop (mkF m 281 #[.val (.int p1), .val (.int p2), .val (.int p3), .val (.int p4), .val (.long q5), .second, .val (.int (3 : Int32)), .val (.int su), .val (.int rr), .val (.int cp), .val (.ref b94), .val (.int t)] [(.int cp), (.int (128 : Int32)), (.int (t + (2 : Int32))), (.ref b94)]))
      refine own_Fin.step (fun _ => XS.bipush X111.here hx rfl (hb hby at_281)) ?_
      show own_Fin p e below s _ _ _ (T111.setTop (mkF m 283 #[.val (.int p1), .val (.int p2), .val (.int p3), .val (.int p4), .val (.long q5), .second, .val (.int (3 : Int32)), .val (.int su), .val (.int rr), .val (.int cp), .val (.ref b94), .val (.int t)] [(.int (63 : Int32)), (.int cp), (.int (128 : Int32)), (.int (t + (2 : Int32))), (.ref b94)]))
      refine own_Fin.step (fun _ => XS.iand X111.here hx rfl (hb hby at_283) rfl) ?_
      show own_Fin p e below s _ _ _ (T111.setTop (mkF m 284 #[.val (.int p1), .val (.int p2), .val (.int p3), .val (.int p4), .val (.long q5), .second, .val (.int (3 : Int32)), .val (.int su), .val (.int rr), .val (.int cp), .val (.ref b94), .val (.int t)] [(.int (cp &&& (63 : Int32))), (.int (128 : Int32)), (.int (t + (2 : Int32))), (.ref b94)]))
      refine own_Fin.step (fun _ => XS.ior X111.here hx rfl (hb hby at_284) rfl) ?_
      show own_Fin p e below s _ _ _ (T111.setTop (mkF m 285 #[.val (.int p1), .val (.int p2), .val (.int p3), .val (.int p4), .val (.long q5), .second, .val (.int (3 : Int32)), .val (.int su), .val (.int rr), .val (.int cp), .val (.ref b94), .val (.int t)] [(.int ((128 : Int32) ||| (cp &&& (63 : Int32)))), (.int (t + (2 : Int32))), (.ref b94)]))
      refine own_Fin.step (fun _ => XS.i2b X111.here hx rfl (hb hby at_285) rfl) ?_
      show own_Fin p e below s _ _ _ (T111.setTop (mkF m 286 #[.val (.int p1), .val (.int p2), .val (.int p3), .val (.int p4), .val (.long q5), .second, .val (.int (3 : Int32)), .val (.int su), .val (.int rr), .val (.int cp), .val (.ref b94), .val (.int t)] [(.int (((128 : Int32) ||| (cp &&& (63 : Int32))).toInt8.toInt32)), (.int (t + (2 : Int32))), (.ref b94)]))
      obtain ⟨T113, h113, X113, e113, V113, W113, st113⟩ := own_stFB X111 hx hZ e111 V111 (j := (t + (2 : Int32))) (own_ix (i := 2) (iv := 2) (by decide) ht (by decide) (by decide)).1 (g := (mkF m 286 #[.val (.int p1), .val (.int p2), .val (.int p3), .val (.int p4), .val (.long q5), .second, .val (.int (3 : Int32)), .val (.int su), .val (.int rr), .val (.int cp), .val (.ref b94), .val (.int t)] [(.int (((128 : Int32) ||| (cp &&& (63 : Int32))).toInt8.toInt32)), (.int (t + (2 : Int32))), (.ref b94)])) rfl rfl (hb hby at_286)
      have N113 := Fr.snoc X113 N111 ge95
      have Z113 : n0 ≤ h113.size := Nat.le_trans Z111 (Nat.le_of_eq W113.size.symm)
      refine own_Fin.step st113 ?_
      show own_Fin p e below s _ _ _ (T113.setTop (mkF m 287 #[.val (.int p1), .val (.int p2), .val (.int p3), .val (.int p4), .val (.long q5), .second, .val (.int (3 : Int32)), .val (.int su), .val (.int rr), .val (.int cp), .val (.ref b94), .val (.int t)] []))
      refine own_Fin.step (fun _ => XS.goto X113.here hx rfl (pc0 := 287) (pc' := 362) rfl (hb hby at_287) (by decide) (by decide)) ?_
      show own_Fin p e below s _ _ _ (T113.setTop (mkF m 362 #[.val (.int p1), .val (.int p2), .val (.int p3), .val (.int p4), .val (.long q5), .second, .val (.int (3 : Int32)), .val (.int su), .val (.int rr), .val (.int cp), .val (.ref b94), .val (.int t)] []))
      refine own_Fin.step (fun _ => XS.aload X113.here hx rfl (hb hby at_362) rfl rfl) ?_
      show own_Fin p e below s _ _ _ (T113.setTop (mkF m 364 #[.val (.int p1), .val (.int p2), .val (.int p3), .val (.int p4), .val (.long q5), .second, .val (.int (3 : Int32)), .val (.int su), .val (.int rr), .val (.int cp), .val (.ref b94), .val (.int t)] [(.ref b94)]))
      refine own_Fin.step (fun _ => XS.iload X113.here hx rfl (hb hby at_364) rfl) ?_
      show own_Fin p e below s _ _ _ (T113.setTop (mkF m 366 #[.val (.int p1), .val (.int p2), .val (.int p3), .val (.int p4), .val (.long q5), .second, .val (.int (3 : Int32)), .val (.int su), .val (.int rr), .val (.int cp), .val (.ref b94), .val (.int t)] [(.int t), (.ref b94)]))
      refine own_Fin.step (fun _ => XS.iload X113.here hx rfl (hb hby at_366) rfl) ?_
      show own_Fin p e below s _ _ _ (T113.setTop (mkF m 368 #[.val (.int p1), .val (.int p2), .val (.int p3), .val (.int p4), .val (.long q5), .second, .val (.int (3 : Int32)), .val (.int su), .val (.int rr), .val (.int cp), .val (.ref b94), .val (.int t)] [(.int (3 : Int32)), (.int t), (.ref b94)]))
      refine own_Fin.step (fun _ => XS.iload X113.here hx rfl (hb hby at_368) rfl) ?_
      show own_Fin p e below s _ _ _ (T113.setTop (mkF m 370 #[.val (.int p1), .val (.int p2), .val (.int p3), .val (.int p4), .val (.long q5), .second, .val (.int (3 : Int32)), .val (.int su), .val (.int rr), .val (.int cp), .val (.ref b94), .val (.int t)] [(.int su), (.int (3 : Int32)), (.int t), (.ref b94)]))
      obtain ⟨_, T115, L115, X115, ⟨rfl, N115q, e115⟩, st115⟩ := own_callS X113 hx hZ hown (own_w hw 2 rfl) (own_w hw 3 rfl) (own_w hw 4 rfl) (own_w hw 5 rfl) (by decide) (rm3b l Z a0 hw b94 t su k94 (own_upd (own_upd (own_upd (own_upd (own_upd (own_upd (own_upd (own_upd (own_upd (fun _ => (0 : Int32)) ((0 : Int32)).toNatClampNeg (nar .byte ((q5.toInt32).toInt8.toInt32))) ((1 : Int32)).toNatClampNeg (nar .byte ((((q5.toUInt64 >>> ((8 : Int32) &&& 0x3f).toInt64.toUInt64).toInt64).toInt32).toInt8.toInt32))) ((2 : Int32)).toNatClampNeg (nar .byte ((((q5.toUInt64 >>> ((16 : Int32) &&& 0x3f).toInt64.toUInt64).toInt64).toInt32).toInt8.toInt32))) ((3 : Int32)).toNatClampNeg (nar .byte ((((q5.toUInt64 >>> ((24 : Int32) &&& 0x3f).toInt64.toUInt64).toInt64).toInt32).toInt8.toInt32))) ((4 : Int32)).toNatClampNeg (nar .byte ((((q5.toUInt64 >>> ((32 : Int32) &&& 0x3f).toInt64.toUInt64).toInt64).toInt32).toInt8.toInt32))) ((5 : Int32)).toNatClampNeg (nar .byte ((((q5.toUInt64 >>> ((40 : Int32) &&& 0x3f).toInt64.toUInt64).toInt64).toInt32).toInt8.toInt32))) (t).toNatClampNeg (nar .byte (((224 : Int32) ||| ((cp.toUInt32 >>> ((12 : Int32) &&& 31).toUInt32).toInt32)).toInt8.toInt32))) ((t + (1 : Int32))).toNatClampNeg (nar .byte (((128 : Int32) ||| (((cp.toUInt32 >>> ((6 : Int32) &&& 31).toUInt32).toInt32) &&& (63 : Int32))).toInt8.toInt32))) ((t + (2 : Int32))).toNatClampNeg (nar .byte (((128 : Int32) ||| (cp &&& (63 : Int32))).toInt8.toInt32))) (nar .byte (((224 : Int32) ||| ((cp.toUInt32 >>> ((12 : Int32) &&& 31).toUInt32).toInt32)).toInt8.toInt32)) (nar .byte (((128 : Int32) ||| (((cp.toUInt32 >>> ((6 : Int32) &&& 31).toUInt32).toInt32) &&& (63 : Int32))).toInt8.toInt32)) (nar .byte (((128 : Int32) ||| (cp &&& (63 : Int32))).toInt8.toInt32)) cp h113 n0 Z113 V113 (own_ix0 ht (by decide)) (own_ix (i := 1) (iv := 1) (by decide) ht (by decide) (by decide)).1 (own_ix (i := 2) (iv := 2) (by decide) ht (by decide) (by decide)).1 (by simp [own_upd, nx1, nx2]) (by simp [own_upd, nx1, nx2]) (by simp [own_upd, nx1, nx2]) (own_dec3 cp hcp.1 hcp.2).2.1 (own_dec3 cp hcp.1 hcp.2).2.2  (own_dec3 cp hcp.1 hcp.2).1 (own_nlt (d := 2048) (by decide) hcp.1) hsr) (by decide) (by decide) e113 (W := 0) (g := (mkF m 370 #[.val (.int p1), .val (.int p2), .val (.int p3), .val (.int p4), .val (.long q5), .second, .val (.int (3 : Int32)), .val (.int su), .val (.int rr), .val (.int cp), .val (.ref b94), .val (.int t)] [(.int su), (.int (3 : Int32)), (.int t), (.ref b94)])) rfl (by rw [hml]; rfl) (argsL := [(.ref b94), (.int t), (.int (3 : Int32)), (.int su)]) (rest := []) (lenOf pd_2 rfl) rfl rfl (by show 2 * 0 + _ ≤ _; exact Nat.le_of_eq rfl) (hb hby at_370) (by decide) (by decide)
      have N115 := Fr.app N113 N115q
      refine own_Fin.step st115 ?_
      show own_Fin p e below s _ _ _ (T115.setTop (mkF m 373 #[.val (.int p1), .val (.int p2), .val (.int p3), .val (.int p4), .val (.long q5), .second, .val (.int (3 : Int32)), .val (.int su), .val (.int rr), .val (.int cp), .val (.ref b94), .val (.int t)] [(.int cp)]))
      refine own_Fin.step (fun _ => XS.iload X115.here hx rfl (hb hby at_373) rfl) ?_
      show own_Fin p e below s _ _ _ (T115.setTop (mkF m 375 #[.val (.int p1), .val (.int p2), .val (.int p3), .val (.int p4), .val (.long q5), .second, .val (.int (3 : Int32)), .val (.int su), .val (.int rr), .val (.int cp), .val (.ref b94), .val (.int t)] [(.int cp), (.int cp)]))
      refine own_Fin.step (fun _ => XS.icmpNo X115.here hx rfl (hb hby at_375) rfl (XT.ii_ne_f (rfl : cp = cp))) ?_
      show own_Fin p e below s _ _ _ (T115.setTop (mkF m 378 #[.val (.int p1), .val (.int p2), .val (.int p3), .val (.int p4), .val (.long q5), .second, .val (.int (3 : Int32)), .val (.int su), .val (.int rr), .val (.int cp), .val (.ref b94), .val (.int t)] []))
      refine own_Fin.step (fun _ => XS.iconst X115.here hx rfl (hb hby at_378)) ?_
      show own_Fin p e below s _ _ _ (T115.setTop (mkF m 379 #[.val (.int p1), .val (.int p2), .val (.int p3), .val (.int p4), .val (.long q5), .second, .val (.int (3 : Int32)), .val (.int su), .val (.int rr), .val (.int cp), .val (.ref b94), .val (.int t)] [(.int (1 : Int32))]))
      refine own_Fin.step (fun _ => XS.goto X115.here hx rfl (pc0 := 379) (pc' := 383) rfl (hb hby at_379) (by decide) (by decide)) ?_
      show own_Fin p e below s _ _ _ (T115.setTop (mkF m 383 #[.val (.int p1), .val (.int p2), .val (.int p3), .val (.int p4), .val (.long q5), .second, .val (.int (3 : Int32)), .val (.int su), .val (.int rr), .val (.int cp), .val (.ref b94), .val (.int t)] [(.int (1 : Int32))]))
      exact own_retN X115 hx hlk (t := .boolean) hret (by simp) (hb hby at_383) ⟨rfl, N115⟩ (by decide) (by decide)
  ·
    show own_Fin p e below s _ _ _ (s₁.setTop (mkF m 8 #[.val (.int p1), .val (.int p2), .val (.int p3), .val (.int p4), .val (.long q5), .second, .unset, .unset, .unset, .unset, .unset, .unset] [(.int (4 : Int32))]))
    refine own_Fin.step (fun _ => XS.istore X0.here hx rfl (hb hby at_8) rfl (l' := #[.val (.int p1), .val (.int p2), .val (.int p3), .val (.int p4), .val (.long q5), .second, .val (.int (4 : Int32)), .unset, .unset, .unset, .unset, .unset]) rfl) ?_
    show own_Fin p e below s _ _ _ (s₁.setTop (mkF m 10 #[.val (.int p1), .val (.int p2), .val (.int p3), .val (.int p4), .val (.long q5), .second, .val (.int (4 : Int32)), .unset, .unset, .unset, .unset, .unset] []))
    refine own_Fin.step (fun _ => XS.iloadN X0.here hx rfl (hb hby at_10) rfl) ?_
    show own_Fin p e below s _ _ _ (s₁.setTop (mkF m 11 #[.val (.int p1), .val (.int p2), .val (.int p3), .val (.int p4), .val (.long q5), .second, .val (.int (4 : Int32)), .unset, .unset, .unset, .unset, .unset] [(.int p3)]))
    refine own_Fin.step (fun _ => XS.iconst X0.here hx rfl (hb hby at_11)) ?_
    show own_Fin p e below s _ _ _ (s₁.setTop (mkF m 12 #[.val (.int p1), .val (.int p2), .val (.int p3), .val (.int p4), .val (.long q5), .second, .val (.int (4 : Int32)), .unset, .unset, .unset, .unset, .unset] [(.int (1 : Int32)), (.int p3)]))
    refine own_Fin.step (fun _ => XS.iand X0.here hx rfl (hb hby at_12) rfl) ?_
    show own_Fin p e below s _ _ _ (s₁.setTop (mkF m 13 #[.val (.int p1), .val (.int p2), .val (.int p3), .val (.int p4), .val (.long q5), .second, .val (.int (4 : Int32)), .unset, .unset, .unset, .unset, .unset] [(.int (p3 &&& (1 : Int32)))]))
    have st117 : ∀ t, Steps p.tables e below (s₁.setTop (mkF m 21 #[.val (.int p1), .val (.int p2), .val (.int p3), .val (.int p4), .val (.long q5), .second, .val (.int (4 : Int32)), .unset, .unset, .unset, .unset, .unset] [(.int (if (p3 &&& (1 : Int32)) = (0 : Int32) then (0 : Int32) else (1 : Int32)))])) t → Steps p.tables e below (s₁.setTop (mkF m 13 #[.val (.int p1), .val (.int p2), .val (.int p3), .val (.int p4), .val (.long q5), .second, .val (.int (4 : Int32)), .unset, .unset, .unset, .unset, .unset] [(.int (p3 &&& (1 : Int32)))])) t := by
      intro t kt
      by_cases hc13_116 : (p3 &&& (1 : Int32)) = (0 : Int32)
      · simp only [if_pos hc13_116] at kt
        refine XS.ifYes X0.here hx rfl (pc0 := 13) (pc' := 20) rfl (hb hby at_13) rfl (XT.i0_eq_t hc13_116) (by decide) (by decide) ?_
        show Steps p.tables e below (s₁.setTop (mkF m 20 #[.val (.int p1), .val (.int p2), .val (.int p3), .val (.int p4), .val (.long q5), .second, .val (.int (4 : Int32)), .unset, .unset, .unset, .unset, .unset] [])) _
        refine XS.iconst X0.here hx rfl (hb hby at_20) ?_
        exact kt
      · simp only [if_neg hc13_116] at kt
        refine XS.ifNo X0.here hx rfl (hb hby at_13) rfl (XT.i0_eq_f hc13_116) ?_
        show Steps p.tables e below (s₁.setTop (mkF m 16 #[.val (.int p1), .val (.int p2), .val (.int p3), .val (.int p4), .val (.long q5), .second, .val (.int (4 : Int32)), .unset, .unset, .unset, .unset, .unset] [])) _
        refine XS.iconst X0.here hx rfl (hb hby at_16) ?_
        show Steps p.tables e below (s₁.setTop (mkF m 17 #[.val (.int p1), .val (.int p2), .val (.int p3), .val (.int p4), .val (.long q5), .second, .val (.int (4 : Int32)), .unset, .unset, .unset, .unset, .unset] [(.int (1 : Int32))])) _
        refine XS.goto X0.here hx rfl (pc0 := 17) (pc' := 21) rfl (hb hby at_17) (by decide) (by decide) ?_
        exact kt
    refine own_Fin.step st117 ?_
    show own_Fin p e below s _ _ _ (s₁.setTop (mkF m 21 #[.val (.int p1), .val (.int p2), .val (.int p3), .val (.int p4), .val (.long q5), .second, .val (.int (4 : Int32)), .unset, .unset, .unset, .unset, .unset] [(.int (if (p3 &&& (1 : Int32)) = (0 : Int32) then (0 : Int32) else (1 : Int32)))]))
    generalize hsu : (if (p3 &&& (1 : Int32)) = (0 : Int32) then (0 : Int32) else (1 : Int32)) = su
    refine own_Fin.step (fun _ => XS.istore X0.here hx rfl (hb hby at_21) rfl (l' := #[.val (.int p1), .val (.int p2), .val (.int p3), .val (.int p4), .val (.long q5), .second, .val (.int (4 : Int32)), .val (.int su), .unset, .unset, .unset, .unset]) rfl) ?_
    show own_Fin p e below s _ _ _ (s₁.setTop (mkF m 23 #[.val (.int p1), .val (.int p2), .val (.int p3), .val (.int p4), .val (.long q5), .second, .val (.int (4 : Int32)), .val (.int su), .unset, .unset, .unset, .unset] []))
    refine own_Fin.step (fun _ => XS.iloadN X0.here hx rfl (hb hby at_23) rfl) ?_
    show own_Fin p e below s _ _ _ (s₁.setTop (mkF m 24 #[.val (.int p1), .val (.int p2), .val (.int p3), .val (.int p4), .val (.long q5), .second, .val (.int (4 : Int32)), .val (.int su), .unset, .unset, .unset, .unset] [(.int p1)]))
    refine own_Fin.step (X0.ldcInt hx hown (mvT hZ (own_w hw 0 rfl)) (g := (mkF m 24 #[.val (.int p1), .val (.int p2), .val (.int p3), .val (.int p4), .val (.long q5), .second, .val (.int (4 : Int32)), .val (.int su), .unset, .unset, .unset, .unset] [(.int p1)])) rfl (hb hby at_24)) ?_
    show own_Fin p e below s _ _ _ (s₁.setTop (mkF m 26 #[.val (.int p1), .val (.int p2), .val (.int p3), .val (.int p4), .val (.long q5), .second, .val (.int (4 : Int32)), .val (.int su), .unset, .unset, .unset, .unset] [(.int (2147483647 : Int32)), (.int p1)]))
    refine own_Fin.step (fun _ => XS.iand X0.here hx rfl (hb hby at_26) rfl) ?_
    show own_Fin p e below s _ _ _ (s₁.setTop (mkF m 27 #[.val (.int p1), .val (.int p2), .val (.int p3), .val (.int p4), .val (.long q5), .second, .val (.int (4 : Int32)), .val (.int su), .unset, .unset, .unset, .unset] [(.int (p1 &&& (2147483647 : Int32)))]))
    generalize hrr : (p1 &&& (2147483647 : Int32)) = rr
    have hr : 0 ≤ rr.toInt := hrr ▸ own_nn p1
    refine own_Fin.step (fun _ => XS.istore X0.here hx rfl (hb hby at_27) rfl (l' := #[.val (.int p1), .val (.int p2), .val (.int p3), .val (.int p4), .val (.long q5), .second, .val (.int (4 : Int32)), .val (.int su), .val (.int rr), .unset, .unset, .unset]) rfl) ?_
    show own_Fin p e below s _ _ _ (s₁.setTop (mkF m 29 #[.val (.int p1), .val (.int p2), .val (.int p3), .val (.int p4), .val (.long q5), .second, .val (.int (4 : Int32)), .val (.int su), .val (.int rr), .unset, .unset, .unset] []))
    refine own_Fin.step (fun _ => XS.iload X0.here hx rfl (hb hby at_29) rfl) ?_
    show own_Fin p e below s _ _ _ (s₁.setTop (mkF m 31 #[.val (.int p1), .val (.int p2), .val (.int p3), .val (.int p4), .val (.long q5), .second, .val (.int (4 : Int32)), .val (.int su), .val (.int rr), .unset, .unset, .unset] [(.int (4 : Int32))]))
    refine own_Fin.step (fun _ => XS.iconst X0.here hx rfl (hb hby at_31)) ?_
    show own_Fin p e below s _ _ _ (s₁.setTop (mkF m 32 #[.val (.int p1), .val (.int p2), .val (.int p3), .val (.int p4), .val (.long q5), .second, .val (.int (4 : Int32)), .val (.int su), .val (.int rr), .unset, .unset, .unset] [(.int (2 : Int32)), (.int (4 : Int32))]))
    refine own_Fin.step (fun _ => XS.icmpYes X0.here hx rfl (pc0 := 32) (pc' := 50) rfl (hb hby at_32) rfl (XT.ii_ne_t (by decide : ¬ ((4 : Int32) = (2 : Int32)))) (by decide) (by decide)) ?_
    show own_Fin p e below s _ _ _ (s₁.setTop (mkF m 50 #[.val (.int p1), .val (.int p2), .val (.int p3), .val (.int p4), .val (.long q5), .second, .val (.int (4 : Int32)), .val (.int su), .val (.int rr), .unset, .unset, .unset] []))
    refine own_Fin.step (fun _ => XS.iload X0.here hx rfl (hb hby at_50) rfl) ?_
    show own_Fin p e below s _ _ _ (s₁.setTop (mkF m 52 #[.val (.int p1), .val (.int p2), .val (.int p3), .val (.int p4), .val (.long q5), .second, .val (.int (4 : Int32)), .val (.int su), .val (.int rr), .unset, .unset, .unset] [(.int (4 : Int32))]))
    refine own_Fin.step (fun _ => XS.iconst X0.here hx rfl (hb hby at_52)) ?_
    show own_Fin p e below s _ _ _ (s₁.setTop (mkF m 53 #[.val (.int p1), .val (.int p2), .val (.int p3), .val (.int p4), .val (.long q5), .second, .val (.int (4 : Int32)), .val (.int su), .val (.int rr), .unset, .unset, .unset] [(.int (3 : Int32)), (.int (4 : Int32))]))
    refine own_Fin.step (fun _ => XS.icmpYes X0.here hx rfl (pc0 := 53) (pc' := 97) rfl (hb hby at_53) rfl (XT.ii_ne_t (by decide : ¬ ((4 : Int32) = (3 : Int32)))) (by decide) (by decide)) ?_
    show own_Fin p e below s _ _ _ (s₁.setTop (mkF m 97 #[.val (.int p1), .val (.int p2), .val (.int p3), .val (.int p4), .val (.long q5), .second, .val (.int (4 : Int32)), .val (.int su), .val (.int rr), .unset, .unset, .unset] []))
    refine own_Fin.step (X0.ldcInt hx hown (mvT hZ (own_w hw 9 rfl)) (g := (mkF m 97 #[.val (.int p1), .val (.int p2), .val (.int p3), .val (.int p4), .val (.long q5), .second, .val (.int (4 : Int32)), .val (.int su), .val (.int rr), .unset, .unset, .unset] [])) rfl (hb hby at_97)) ?_
    show own_Fin p e below s _ _ _ (s₁.setTop (mkF m 99 #[.val (.int p1), .val (.int p2), .val (.int p3), .val (.int p4), .val (.long q5), .second, .val (.int (4 : Int32)), .val (.int su), .val (.int rr), .unset, .unset, .unset] [(.int (65536 : Int32))]))
    refine own_Fin.step (fun _ => XS.iload X0.here hx rfl (hb hby at_99) rfl) ?_
    show own_Fin p e below s _ _ _ (s₁.setTop (mkF m 101 #[.val (.int p1), .val (.int p2), .val (.int p3), .val (.int p4), .val (.long q5), .second, .val (.int (4 : Int32)), .val (.int su), .val (.int rr), .unset, .unset, .unset] [(.int rr), (.int (65536 : Int32))]))
    refine own_Fin.step (X0.ldcInt hx hown (mvT hZ (own_w hw 10 rfl)) (g := (mkF m 101 #[.val (.int p1), .val (.int p2), .val (.int p3), .val (.int p4), .val (.long q5), .second, .val (.int (4 : Int32)), .val (.int su), .val (.int rr), .unset, .unset, .unset] [(.int rr), (.int (65536 : Int32))])) rfl (hb hby at_101)) ?_
    show own_Fin p e below s _ _ _ (s₁.setTop (mkF m 103 #[.val (.int p1), .val (.int p2), .val (.int p3), .val (.int p4), .val (.long q5), .second, .val (.int (4 : Int32)), .val (.int su), .val (.int rr), .unset, .unset, .unset] [(.int (1048576 : Int32)), (.int rr), (.int (65536 : Int32))]))
    refine own_Fin.step (fun _ => Jvm.RoadKit.iremM X0 hx rfl (hb hby at_103) rfl (by decide)) ?_
    show own_Fin p e below s _ _ _ (s₁.setTop (mkF m 104 #[.val (.int p1), .val (.int p2), .val (.int p3), .val (.int p4), .val (.long q5), .second, .val (.int (4 : Int32)), .val (.int su), .val (.int rr), .unset, .unset, .unset] [(.int (rr % (1048576 : Int32))), (.int (65536 : Int32))]))
    refine own_Fin.step (fun _ => XS.iadd X0.here hx rfl (hb hby at_104) rfl) ?_
    show own_Fin p e below s _ _ _ (s₁.setTop (mkF m 105 #[.val (.int p1), .val (.int p2), .val (.int p3), .val (.int p4), .val (.long q5), .second, .val (.int (4 : Int32)), .val (.int su), .val (.int rr), .unset, .unset, .unset] [(.int ((65536 : Int32) + (rr % (1048576 : Int32))))]))
    generalize hcp0 : ((65536 : Int32) + (rr % (1048576 : Int32))) = cp
    have hcp : 65536 ≤ cp.toInt ∧ cp.toInt < 1114112 := hcp0 ▸ own_off (bv := 65536) (d := 1048576) (by decide) (by decide) hr (by decide) (by decide) (by decide)
    refine own_Fin.step (fun _ => XS.istore X0.here hx rfl (hb hby at_105) rfl (l' := #[.val (.int p1), .val (.int p2), .val (.int p3), .val (.int p4), .val (.long q5), .second, .val (.int (4 : Int32)), .val (.int su), .val (.int rr), .val (.int cp), .unset, .unset]) rfl) ?_
    show own_Fin p e below s _ _ _ (s₁.setTop (mkF m 107 #[.val (.int p1), .val (.int p2), .val (.int p3), .val (.int p4), .val (.long q5), .second, .val (.int (4 : Int32)), .val (.int su), .val (.int rr), .val (.int cp), .unset, .unset] []))
    refine own_Fin.step (fun _ => XS.bipush X0.here hx rfl (hb hby at_107)) ?_
    show own_Fin p e below s _ _ _ (s₁.setTop (mkF m 109 #[.val (.int p1), .val (.int p2), .val (.int p3), .val (.int p4), .val (.long q5), .second, .val (.int (4 : Int32)), .val (.int su), .val (.int rr), .val (.int cp), .unset, .unset] [(.int (6 : Int32))]))
    obtain ⟨T118, h118, k118, b118, X118, e118, E118, g118, V118, st118⟩ := own_newA X0 hx hZ (own_w hw 1 rfl) e0 (ty := .byte) (dv := (.int (0 : Int32))) rfl rfl (g := (mkF m 109 #[.val (.int p1), .val (.int p2), .val (.int p3), .val (.int p4), .val (.long q5), .second, .val (.int (4 : Int32)), .val (.int su), .val (.int rr), .val (.int cp), .unset, .unset] [(.int (6 : Int32))])) rfl (hb hby at_109) rfl (by decide) (cap := 6) (by decide) (by decide) (by decide) (by decide) (6)
    have ge119 : n0 ≤ b118 := Nat.le_trans Z0 (Nat.le_of_eq g118.symm)
    have Z118 : n0 ≤ h118.size := Nat.le_trans Z0 E118.1
    have V118' : Arv Z h118 b118 k118 .byte (6 : Int32) [(.int (0 : Int32)), (.int (0 : Int32)), (.int (0 : Int32)), (.int (0 : Int32)), (.int (0 : Int32)), (.int (0 : Int32))] (.int (0 : Int32)) := V118
    refine own_Fin.step st118 ?_
    show own_Fin p e below s _ _ _ (T118.setTop (mkF m 111 #[.val (.int p1), .val (.int p2), .val (.int p3), .val (.int p4), .val (.long q5), .second, .val (.int (4 : Int32)), .val (.int su), .val (.int rr), .val (.int cp), .unset, .unset] [(.ref b118)]))
    have Vf120 := own_Arf.of (N := 6) V118'
    refine own_Fin.step (fun _ => XS.astore X118.here hx rfl (hb hby at_111) rfl rfl (l' := #[.val (.int p1), .val (.int p2), .val (.int p3), .val (.int p4), .val (.long q5), .second, .val (.int (4 : Int32)), .val (.int su), .val (.int rr), .val (.int cp), .val (.ref b118), .unset]) rfl) ?_
    show own_Fin p e below s _ _ _ (T118.setTop (mkF m 113 #[.val (.int p1), .val (.int p2), .val (.int p3), .val (.int p4), .val (.long q5), .second, .val (.int (4 : Int32)), .val (.int su), .val (.int rr), .val (.int cp), .val (.ref b118), .unset] []))
    refine own_Fin.step (fun _ => XS.aload X118.here hx rfl (hb hby at_113) rfl rfl) ?_
    show own_Fin p e below s _ _ _ (T118.setTop (mkF m 115 #[.val (.int p1), .val (.int p2), .val (.int p3), .val (.int p4), .val (.long q5), .second, .val (.int (4 : Int32)), .val (.int su), .val (.int rr), .val (.int cp), .val (.ref b118), .unset] [(.ref b118)]))
    refine own_Fin.step (fun _ => XS.iconst X118.here hx rfl (hb hby at_115)) ?_
    show own_Fin p e below s _ _ _ (T118.setTop (mkF m 116 #[.val (.int p1), .val (.int p2), .val (.int p3), .val (.int p4), .val (.long q5), .second, .val (.int (4 : Int32)), .val (.int su), .val (.int rr), .val (.int cp), .val (.ref b118), .unset] [(.int (0 : Int32)), (.ref b118)]))
    refine own_Fin.step (fun _ => XS.lload X118.here hx rfl (hb hby at_116) rfl) ?_
    show own_Fin p e below s _ _ _ (T118.setTop (mkF m 118 #[.val (.int p1), .val (.int p2), .val (.int p3), .val (.int p4), .val (.long q5), .second, .val (.int (4 : Int32)), .val (.int su), .val (.int rr), .val (.int cp), .val (.ref b118), .unset] [(.long q5), (.int (0 : Int32)), (.ref b118)]))
    refine own_Fin.step (fun _ => XS.l2i X118.here hx rfl (hb hby at_118) rfl) ?_
    show own_Fin p e below s _ _ _ (T118.setTop (mkF m 119 #[.val (.int p1), .val (.int p2), .val (.int p3), .val (.int p4), .val (.long q5), .second, .val (.int (4 : Int32)), .val (.int su), .val (.int rr), .val (.int cp), .val (.ref b118), .unset] [(.int (q5.toInt32)), (.int (0 : Int32)), (.ref b118)]))
    refine own_Fin.step (fun _ => XS.i2b X118.here hx rfl (hb hby at_119) rfl) ?_
    show own_Fin p e below s _ _ _ (T118.setTop (mkF m 120 #[.val (.int p1), .val (.int p2), .val (.int p3), .val (.int p4), .val (.long q5), .second, .val (.int (4 : Int32)), .val (.int su), .val (.int rr), .val (.int cp), .val (.ref b118), .unset] [(.int ((q5.toInt32).toInt8.toInt32)), (.int (0 : Int32)), (.ref b118)]))
    obtain ⟨T121, h121, X121, e121, V121, W121, st121⟩ := own_stFB X118 hx hZ e118 Vf120 (j := (0 : Int32)) ⟨by decide, by decide⟩ (g := (mkF m 120 #[.val (.int p1), .val (.int p2), .val (.int p3), .val (.int p4), .val (.long q5), .second, .val (.int (4 : Int32)), .val (.int su), .val (.int rr), .val (.int cp), .val (.ref b118), .unset] [(.int ((q5.toInt32).toInt8.toInt32)), (.int (0 : Int32)), (.ref b118)])) rfl rfl (hb hby at_120)
    have N121 := Fr.snoc X121 N0 ge119
    have Z121 : n0 ≤ h121.size := Nat.le_trans Z118 (Nat.le_of_eq W121.size.symm)
    refine own_Fin.step st121 ?_
    show own_Fin p e below s _ _ _ (T121.setTop (mkF m 121 #[.val (.int p1), .val (.int p2), .val (.int p3), .val (.int p4), .val (.long q5), .second, .val (.int (4 : Int32)), .val (.int su), .val (.int rr), .val (.int cp), .val (.ref b118), .unset] []))
    refine own_Fin.step (fun _ => XS.aload X121.here hx rfl (hb hby at_121) rfl rfl) ?_
    show own_Fin p e below s _ _ _ (T121.setTop (mkF m 123 #[.val (.int p1), .val (.int p2), .val (.int p3), .val (.int p4), .val (.long q5), .second, .val (.int (4 : Int32)), .val (.int su), .val (.int rr), .val (.int cp), .val (.ref b118), .unset] [(.ref b118)]))
    refine own_Fin.step (fun _ => XS.iconst X121.here hx rfl (hb hby at_123)) ?_
    show own_Fin p e below s _ _ _ (T121.setTop (mkF m 124 #[.val (.int p1), .val (.int p2), .val (.int p3), .val (.int p4), .val (.long q5), .second, .val (.int (4 : Int32)), .val (.int su), .val (.int rr), .val (.int cp), .val (.ref b118), .unset] [(.int (1 : Int32)), (.ref b118)]))
    refine own_Fin.step (fun _ => XS.lload X121.here hx rfl (hb hby at_124) rfl) ?_
    show own_Fin p e below s _ _ _ (T121.setTop (mkF m 126 #[.val (.int p1), .val (.int p2), .val (.int p3), .val (.int p4), .val (.long q5), .second, .val (.int (4 : Int32)), .val (.int su), .val (.int rr), .val (.int cp), .val (.ref b118), .unset] [(.long q5), (.int (1 : Int32)), (.ref b118)]))
    refine own_Fin.step (fun _ => XS.bipush X121.here hx rfl (hb hby at_126)) ?_
    show own_Fin p e below s _ _ _ (T121.setTop (mkF m 128 #[.val (.int p1), .val (.int p2), .val (.int p3), .val (.int p4), .val (.long q5), .second, .val (.int (4 : Int32)), .val (.int su), .val (.int rr), .val (.int cp), .val (.ref b118), .unset] [(.int (8 : Int32)), (.long q5), (.int (1 : Int32)), (.ref b118)]))
    refine own_Fin.step (fun _ => XS.lushr X121.here hx rfl (hb hby at_128) rfl) ?_
    show own_Fin p e below s _ _ _ (T121.setTop (mkF m 129 #[.val (.int p1), .val (.int p2), .val (.int p3), .val (.int p4), .val (.long q5), .second, .val (.int (4 : Int32)), .val (.int su), .val (.int rr), .val (.int cp), .val (.ref b118), .unset] [(.long ((q5.toUInt64 >>> ((8 : Int32) &&& 0x3f).toInt64.toUInt64).toInt64)), (.int (1 : Int32)), (.ref b118)]))
    refine own_Fin.step (fun _ => XS.l2i X121.here hx rfl (hb hby at_129) rfl) ?_
    show own_Fin p e below s _ _ _ (T121.setTop (mkF m 130 #[.val (.int p1), .val (.int p2), .val (.int p3), .val (.int p4), .val (.long q5), .second, .val (.int (4 : Int32)), .val (.int su), .val (.int rr), .val (.int cp), .val (.ref b118), .unset] [(.int (((q5.toUInt64 >>> ((8 : Int32) &&& 0x3f).toInt64.toUInt64).toInt64).toInt32)), (.int (1 : Int32)), (.ref b118)]))
    refine own_Fin.step (fun _ => XS.i2b X121.here hx rfl (hb hby at_130) rfl) ?_
    show own_Fin p e below s _ _ _ (T121.setTop (mkF m 131 #[.val (.int p1), .val (.int p2), .val (.int p3), .val (.int p4), .val (.long q5), .second, .val (.int (4 : Int32)), .val (.int su), .val (.int rr), .val (.int cp), .val (.ref b118), .unset] [(.int ((((q5.toUInt64 >>> ((8 : Int32) &&& 0x3f).toInt64.toUInt64).toInt64).toInt32).toInt8.toInt32)), (.int (1 : Int32)), (.ref b118)]))
    obtain ⟨T123, h123, X123, e123, V123, W123, st123⟩ := own_stFB X121 hx hZ e121 V121 (j := (1 : Int32)) ⟨by decide, by decide⟩ (g := (mkF m 131 #[.val (.int p1), .val (.int p2), .val (.int p3), .val (.int p4), .val (.long q5), .second, .val (.int (4 : Int32)), .val (.int su), .val (.int rr), .val (.int cp), .val (.ref b118), .unset] [(.int ((((q5.toUInt64 >>> ((8 : Int32) &&& 0x3f).toInt64.toUInt64).toInt64).toInt32).toInt8.toInt32)), (.int (1 : Int32)), (.ref b118)])) rfl rfl (hb hby at_131)
    have N123 := Fr.snoc X123 N121 ge119
    have Z123 : n0 ≤ h123.size := Nat.le_trans Z121 (Nat.le_of_eq W123.size.symm)
    refine own_Fin.step st123 ?_
    show own_Fin p e below s _ _ _ (T123.setTop (mkF m 132 #[.val (.int p1), .val (.int p2), .val (.int p3), .val (.int p4), .val (.long q5), .second, .val (.int (4 : Int32)), .val (.int su), .val (.int rr), .val (.int cp), .val (.ref b118), .unset] []))
    refine own_Fin.step (fun _ => XS.aload X123.here hx rfl (hb hby at_132) rfl rfl) ?_
    show own_Fin p e below s _ _ _ (T123.setTop (mkF m 134 #[.val (.int p1), .val (.int p2), .val (.int p3), .val (.int p4), .val (.long q5), .second, .val (.int (4 : Int32)), .val (.int su), .val (.int rr), .val (.int cp), .val (.ref b118), .unset] [(.ref b118)]))
    refine own_Fin.step (fun _ => XS.iconst X123.here hx rfl (hb hby at_134)) ?_
    show own_Fin p e below s _ _ _ (T123.setTop (mkF m 135 #[.val (.int p1), .val (.int p2), .val (.int p3), .val (.int p4), .val (.long q5), .second, .val (.int (4 : Int32)), .val (.int su), .val (.int rr), .val (.int cp), .val (.ref b118), .unset] [(.int (2 : Int32)), (.ref b118)]))
    refine own_Fin.step (fun _ => XS.lload X123.here hx rfl (hb hby at_135) rfl) ?_
    show own_Fin p e below s _ _ _ (T123.setTop (mkF m 137 #[.val (.int p1), .val (.int p2), .val (.int p3), .val (.int p4), .val (.long q5), .second, .val (.int (4 : Int32)), .val (.int su), .val (.int rr), .val (.int cp), .val (.ref b118), .unset] [(.long q5), (.int (2 : Int32)), (.ref b118)]))
    refine own_Fin.step (fun _ => XS.bipush X123.here hx rfl (hb hby at_137)) ?_
    show own_Fin p e below s _ _ _ (T123.setTop (mkF m 139 #[.val (.int p1), .val (.int p2), .val (.int p3), .val (.int p4), .val (.long q5), .second, .val (.int (4 : Int32)), .val (.int su), .val (.int rr), .val (.int cp), .val (.ref b118), .unset] [(.int (16 : Int32)), (.long q5), (.int (2 : Int32)), (.ref b118)]))
    refine own_Fin.step (fun _ => XS.lushr X123.here hx rfl (hb hby at_139) rfl) ?_
    show own_Fin p e below s _ _ _ (T123.setTop (mkF m 140 #[.val (.int p1), .val (.int p2), .val (.int p3), .val (.int p4), .val (.long q5), .second, .val (.int (4 : Int32)), .val (.int su), .val (.int rr), .val (.int cp), .val (.ref b118), .unset] [(.long ((q5.toUInt64 >>> ((16 : Int32) &&& 0x3f).toInt64.toUInt64).toInt64)), (.int (2 : Int32)), (.ref b118)]))
    refine own_Fin.step (fun _ => XS.l2i X123.here hx rfl (hb hby at_140) rfl) ?_
    show own_Fin p e below s _ _ _ (T123.setTop (mkF m 141 #[.val (.int p1), .val (.int p2), .val (.int p3), .val (.int p4), .val (.long q5), .second, .val (.int (4 : Int32)), .val (.int su), .val (.int rr), .val (.int cp), .val (.ref b118), .unset] [(.int (((q5.toUInt64 >>> ((16 : Int32) &&& 0x3f).toInt64.toUInt64).toInt64).toInt32)), (.int (2 : Int32)), (.ref b118)]))
    refine own_Fin.step (fun _ => XS.i2b X123.here hx rfl (hb hby at_141) rfl) ?_
    show own_Fin p e below s _ _ _ (T123.setTop (mkF m 142 #[.val (.int p1), .val (.int p2), .val (.int p3), .val (.int p4), .val (.long q5), .second, .val (.int (4 : Int32)), .val (.int su), .val (.int rr), .val (.int cp), .val (.ref b118), .unset] [(.int ((((q5.toUInt64 >>> ((16 : Int32) &&& 0x3f).toInt64.toUInt64).toInt64).toInt32).toInt8.toInt32)), (.int (2 : Int32)), (.ref b118)]))
    obtain ⟨T125, h125, X125, e125, V125, W125, st125⟩ := own_stFB X123 hx hZ e123 V123 (j := (2 : Int32)) ⟨by decide, by decide⟩ (g := (mkF m 142 #[.val (.int p1), .val (.int p2), .val (.int p3), .val (.int p4), .val (.long q5), .second, .val (.int (4 : Int32)), .val (.int su), .val (.int rr), .val (.int cp), .val (.ref b118), .unset] [(.int ((((q5.toUInt64 >>> ((16 : Int32) &&& 0x3f).toInt64.toUInt64).toInt64).toInt32).toInt8.toInt32)), (.int (2 : Int32)), (.ref b118)])) rfl rfl (hb hby at_142)
    have N125 := Fr.snoc X125 N123 ge119
    have Z125 : n0 ≤ h125.size := Nat.le_trans Z123 (Nat.le_of_eq W125.size.symm)
    refine own_Fin.step st125 ?_
    show own_Fin p e below s _ _ _ (T125.setTop (mkF m 143 #[.val (.int p1), .val (.int p2), .val (.int p3), .val (.int p4), .val (.long q5), .second, .val (.int (4 : Int32)), .val (.int su), .val (.int rr), .val (.int cp), .val (.ref b118), .unset] []))
    refine own_Fin.step (fun _ => XS.aload X125.here hx rfl (hb hby at_143) rfl rfl) ?_
    show own_Fin p e below s _ _ _ (T125.setTop (mkF m 145 #[.val (.int p1), .val (.int p2), .val (.int p3), .val (.int p4), .val (.long q5), .second, .val (.int (4 : Int32)), .val (.int su), .val (.int rr), .val (.int cp), .val (.ref b118), .unset] [(.ref b118)]))
    refine own_Fin.step (fun _ => XS.iconst X125.here hx rfl (hb hby at_145)) ?_
    show own_Fin p e below s _ _ _ (T125.setTop (mkF m 146 #[.val (.int p1), .val (.int p2), .val (.int p3), .val (.int p4), .val (.long q5), .second, .val (.int (4 : Int32)), .val (.int su), .val (.int rr), .val (.int cp), .val (.ref b118), .unset] [(.int (3 : Int32)), (.ref b118)]))
    refine own_Fin.step (fun _ => XS.lload X125.here hx rfl (hb hby at_146) rfl) ?_
    show own_Fin p e below s _ _ _ (T125.setTop (mkF m 148 #[.val (.int p1), .val (.int p2), .val (.int p3), .val (.int p4), .val (.long q5), .second, .val (.int (4 : Int32)), .val (.int su), .val (.int rr), .val (.int cp), .val (.ref b118), .unset] [(.long q5), (.int (3 : Int32)), (.ref b118)]))
    refine own_Fin.step (fun _ => XS.bipush X125.here hx rfl (hb hby at_148)) ?_
    show own_Fin p e below s _ _ _ (T125.setTop (mkF m 150 #[.val (.int p1), .val (.int p2), .val (.int p3), .val (.int p4), .val (.long q5), .second, .val (.int (4 : Int32)), .val (.int su), .val (.int rr), .val (.int cp), .val (.ref b118), .unset] [(.int (24 : Int32)), (.long q5), (.int (3 : Int32)), (.ref b118)]))
    refine own_Fin.step (fun _ => XS.lushr X125.here hx rfl (hb hby at_150) rfl) ?_
    show own_Fin p e below s _ _ _ (T125.setTop (mkF m 151 #[.val (.int p1), .val (.int p2), .val (.int p3), .val (.int p4), .val (.long q5), .second, .val (.int (4 : Int32)), .val (.int su), .val (.int rr), .val (.int cp), .val (.ref b118), .unset] [(.long ((q5.toUInt64 >>> ((24 : Int32) &&& 0x3f).toInt64.toUInt64).toInt64)), (.int (3 : Int32)), (.ref b118)]))
    refine own_Fin.step (fun _ => XS.l2i X125.here hx rfl (hb hby at_151) rfl) ?_
    show own_Fin p e below s _ _ _ (T125.setTop (mkF m 152 #[.val (.int p1), .val (.int p2), .val (.int p3), .val (.int p4), .val (.long q5), .second, .val (.int (4 : Int32)), .val (.int su), .val (.int rr), .val (.int cp), .val (.ref b118), .unset] [(.int (((q5.toUInt64 >>> ((24 : Int32) &&& 0x3f).toInt64.toUInt64).toInt64).toInt32)), (.int (3 : Int32)), (.ref b118)]))
    refine own_Fin.step (fun _ => XS.i2b X125.here hx rfl (hb hby at_152) rfl) ?_
    show own_Fin p e below s _ _ _ (T125.setTop (mkF m 153 #[.val (.int p1), .val (.int p2), .val (.int p3), .val (.int p4), .val (.long q5), .second, .val (.int (4 : Int32)), .val (.int su), .val (.int rr), .val (.int cp), .val (.ref b118), .unset] [(.int ((((q5.toUInt64 >>> ((24 : Int32) &&& 0x3f).toInt64.toUInt64).toInt64).toInt32).toInt8.toInt32)), (.int (3 : Int32)), (.ref b118)]))
    obtain ⟨T127, h127, X127, e127, V127, W127, st127⟩ := own_stFB X125 hx hZ e125 V125 (j := (3 : Int32)) ⟨by decide, by decide⟩ (g := (mkF m 153 #[.val (.int p1), .val (.int p2), .val (.int p3), .val (.int p4), .val (.long q5), .second, .val (.int (4 : Int32)), .val (.int su), .val (.int rr), .val (.int cp), .val (.ref b118), .unset] [(.int ((((q5.toUInt64 >>> ((24 : Int32) &&& 0x3f).toInt64.toUInt64).toInt64).toInt32).toInt8.toInt32)), (.int (3 : Int32)), (.ref b118)])) rfl rfl (hb hby at_153)
    have N127 := Fr.snoc X127 N125 ge119
    have Z127 : n0 ≤ h127.size := Nat.le_trans Z125 (Nat.le_of_eq W127.size.symm)
    refine own_Fin.step st127 ?_
    show own_Fin p e below s _ _ _ (T127.setTop (mkF m 154 #[.val (.int p1), .val (.int p2), .val (.int p3), .val (.int p4), .val (.long q5), .second, .val (.int (4 : Int32)), .val (.int su), .val (.int rr), .val (.int cp), .val (.ref b118), .unset] []))
    refine own_Fin.step (fun _ => XS.aload X127.here hx rfl (hb hby at_154) rfl rfl) ?_
    show own_Fin p e below s _ _ _ (T127.setTop (mkF m 156 #[.val (.int p1), .val (.int p2), .val (.int p3), .val (.int p4), .val (.long q5), .second, .val (.int (4 : Int32)), .val (.int su), .val (.int rr), .val (.int cp), .val (.ref b118), .unset] [(.ref b118)]))
    refine own_Fin.step (fun _ => XS.iconst X127.here hx rfl (hb hby at_156)) ?_
    show own_Fin p e below s _ _ _ (T127.setTop (mkF m 157 #[.val (.int p1), .val (.int p2), .val (.int p3), .val (.int p4), .val (.long q5), .second, .val (.int (4 : Int32)), .val (.int su), .val (.int rr), .val (.int cp), .val (.ref b118), .unset] [(.int (4 : Int32)), (.ref b118)]))
    refine own_Fin.step (fun _ => XS.lload X127.here hx rfl (hb hby at_157) rfl) ?_
    show own_Fin p e below s _ _ _ (T127.setTop (mkF m 159 #[.val (.int p1), .val (.int p2), .val (.int p3), .val (.int p4), .val (.long q5), .second, .val (.int (4 : Int32)), .val (.int su), .val (.int rr), .val (.int cp), .val (.ref b118), .unset] [(.long q5), (.int (4 : Int32)), (.ref b118)]))
    refine own_Fin.step (fun _ => XS.bipush X127.here hx rfl (hb hby at_159)) ?_
    show own_Fin p e below s _ _ _ (T127.setTop (mkF m 161 #[.val (.int p1), .val (.int p2), .val (.int p3), .val (.int p4), .val (.long q5), .second, .val (.int (4 : Int32)), .val (.int su), .val (.int rr), .val (.int cp), .val (.ref b118), .unset] [(.int (32 : Int32)), (.long q5), (.int (4 : Int32)), (.ref b118)]))
    refine own_Fin.step (fun _ => XS.lushr X127.here hx rfl (hb hby at_161) rfl) ?_
    show own_Fin p e below s _ _ _ (T127.setTop (mkF m 162 #[.val (.int p1), .val (.int p2), .val (.int p3), .val (.int p4), .val (.long q5), .second, .val (.int (4 : Int32)), .val (.int su), .val (.int rr), .val (.int cp), .val (.ref b118), .unset] [(.long ((q5.toUInt64 >>> ((32 : Int32) &&& 0x3f).toInt64.toUInt64).toInt64)), (.int (4 : Int32)), (.ref b118)]))
    refine own_Fin.step (fun _ => XS.l2i X127.here hx rfl (hb hby at_162) rfl) ?_
    show own_Fin p e below s _ _ _ (T127.setTop (mkF m 163 #[.val (.int p1), .val (.int p2), .val (.int p3), .val (.int p4), .val (.long q5), .second, .val (.int (4 : Int32)), .val (.int su), .val (.int rr), .val (.int cp), .val (.ref b118), .unset] [(.int (((q5.toUInt64 >>> ((32 : Int32) &&& 0x3f).toInt64.toUInt64).toInt64).toInt32)), (.int (4 : Int32)), (.ref b118)]))
    refine own_Fin.step (fun _ => XS.i2b X127.here hx rfl (hb hby at_163) rfl) ?_
    show own_Fin p e below s _ _ _ (T127.setTop (mkF m 164 #[.val (.int p1), .val (.int p2), .val (.int p3), .val (.int p4), .val (.long q5), .second, .val (.int (4 : Int32)), .val (.int su), .val (.int rr), .val (.int cp), .val (.ref b118), .unset] [(.int ((((q5.toUInt64 >>> ((32 : Int32) &&& 0x3f).toInt64.toUInt64).toInt64).toInt32).toInt8.toInt32)), (.int (4 : Int32)), (.ref b118)]))
    obtain ⟨T129, h129, X129, e129, V129, W129, st129⟩ := own_stFB X127 hx hZ e127 V127 (j := (4 : Int32)) ⟨by decide, by decide⟩ (g := (mkF m 164 #[.val (.int p1), .val (.int p2), .val (.int p3), .val (.int p4), .val (.long q5), .second, .val (.int (4 : Int32)), .val (.int su), .val (.int rr), .val (.int cp), .val (.ref b118), .unset] [(.int ((((q5.toUInt64 >>> ((32 : Int32) &&& 0x3f).toInt64.toUInt64).toInt64).toInt32).toInt8.toInt32)), (.int (4 : Int32)), (.ref b118)])) rfl rfl (hb hby at_164)
    have N129 := Fr.snoc X129 N127 ge119
    have Z129 : n0 ≤ h129.size := Nat.le_trans Z127 (Nat.le_of_eq W129.size.symm)
    refine own_Fin.step st129 ?_
    show own_Fin p e below s _ _ _ (T129.setTop (mkF m 165 #[.val (.int p1), .val (.int p2), .val (.int p3), .val (.int p4), .val (.long q5), .second, .val (.int (4 : Int32)), .val (.int su), .val (.int rr), .val (.int cp), .val (.ref b118), .unset] []))
    refine own_Fin.step (fun _ => XS.aload X129.here hx rfl (hb hby at_165) rfl rfl) ?_
    show own_Fin p e below s _ _ _ (T129.setTop (mkF m 167 #[.val (.int p1), .val (.int p2), .val (.int p3), .val (.int p4), .val (.long q5), .second, .val (.int (4 : Int32)), .val (.int su), .val (.int rr), .val (.int cp), .val (.ref b118), .unset] [(.ref b118)]))
    refine own_Fin.step (fun _ => XS.iconst X129.here hx rfl (hb hby at_167)) ?_
    show own_Fin p e below s _ _ _ (T129.setTop (mkF m 168 #[.val (.int p1), .val (.int p2), .val (.int p3), .val (.int p4), .val (.long q5), .second, .val (.int (4 : Int32)), .val (.int su), .val (.int rr), .val (.int cp), .val (.ref b118), .unset] [(.int (5 : Int32)), (.ref b118)]))
    refine own_Fin.step (fun _ => XS.lload X129.here hx rfl (hb hby at_168) rfl) ?_
    show own_Fin p e below s _ _ _ (T129.setTop (mkF m 170 #[.val (.int p1), .val (.int p2), .val (.int p3), .val (.int p4), .val (.long q5), .second, .val (.int (4 : Int32)), .val (.int su), .val (.int rr), .val (.int cp), .val (.ref b118), .unset] [(.long q5), (.int (5 : Int32)), (.ref b118)]))
    refine own_Fin.step (fun _ => XS.bipush X129.here hx rfl (hb hby at_170)) ?_
    show own_Fin p e below s _ _ _ (T129.setTop (mkF m 172 #[.val (.int p1), .val (.int p2), .val (.int p3), .val (.int p4), .val (.long q5), .second, .val (.int (4 : Int32)), .val (.int su), .val (.int rr), .val (.int cp), .val (.ref b118), .unset] [(.int (40 : Int32)), (.long q5), (.int (5 : Int32)), (.ref b118)]))
    refine own_Fin.step (fun _ => XS.lushr X129.here hx rfl (hb hby at_172) rfl) ?_
    show own_Fin p e below s _ _ _ (T129.setTop (mkF m 173 #[.val (.int p1), .val (.int p2), .val (.int p3), .val (.int p4), .val (.long q5), .second, .val (.int (4 : Int32)), .val (.int su), .val (.int rr), .val (.int cp), .val (.ref b118), .unset] [(.long ((q5.toUInt64 >>> ((40 : Int32) &&& 0x3f).toInt64.toUInt64).toInt64)), (.int (5 : Int32)), (.ref b118)]))
    refine own_Fin.step (fun _ => XS.l2i X129.here hx rfl (hb hby at_173) rfl) ?_
    show own_Fin p e below s _ _ _ (T129.setTop (mkF m 174 #[.val (.int p1), .val (.int p2), .val (.int p3), .val (.int p4), .val (.long q5), .second, .val (.int (4 : Int32)), .val (.int su), .val (.int rr), .val (.int cp), .val (.ref b118), .unset] [(.int (((q5.toUInt64 >>> ((40 : Int32) &&& 0x3f).toInt64.toUInt64).toInt64).toInt32)), (.int (5 : Int32)), (.ref b118)]))
    refine own_Fin.step (fun _ => XS.i2b X129.here hx rfl (hb hby at_174) rfl) ?_
    show own_Fin p e below s _ _ _ (T129.setTop (mkF m 175 #[.val (.int p1), .val (.int p2), .val (.int p3), .val (.int p4), .val (.long q5), .second, .val (.int (4 : Int32)), .val (.int su), .val (.int rr), .val (.int cp), .val (.ref b118), .unset] [(.int ((((q5.toUInt64 >>> ((40 : Int32) &&& 0x3f).toInt64.toUInt64).toInt64).toInt32).toInt8.toInt32)), (.int (5 : Int32)), (.ref b118)]))
    obtain ⟨T131, h131, X131, e131, V131, W131, st131⟩ := own_stFB X129 hx hZ e129 V129 (j := (5 : Int32)) ⟨by decide, by decide⟩ (g := (mkF m 175 #[.val (.int p1), .val (.int p2), .val (.int p3), .val (.int p4), .val (.long q5), .second, .val (.int (4 : Int32)), .val (.int su), .val (.int rr), .val (.int cp), .val (.ref b118), .unset] [(.int ((((q5.toUInt64 >>> ((40 : Int32) &&& 0x3f).toInt64.toUInt64).toInt64).toInt32).toInt8.toInt32)), (.int (5 : Int32)), (.ref b118)])) rfl rfl (hb hby at_175)
    have N131 := Fr.snoc X131 N129 ge119
    have Z131 : n0 ≤ h131.size := Nat.le_trans Z129 (Nat.le_of_eq W131.size.symm)
    refine own_Fin.step st131 ?_
    show own_Fin p e below s _ _ _ (T131.setTop (mkF m 176 #[.val (.int p1), .val (.int p2), .val (.int p3), .val (.int p4), .val (.long q5), .second, .val (.int (4 : Int32)), .val (.int su), .val (.int rr), .val (.int cp), .val (.ref b118), .unset] []))
    refine own_Fin.step (fun _ => XS.iloadN X131.here hx rfl (hb hby at_176) rfl) ?_
    show own_Fin p e below s _ _ _ (T131.setTop (mkF m 177 #[.val (.int p1), .val (.int p2), .val (.int p3), .val (.int p4), .val (.long q5), .second, .val (.int (4 : Int32)), .val (.int su), .val (.int rr), .val (.int cp), .val (.ref b118), .unset] [(.int p4)]))
    refine own_Fin.step (X131.ldcInt hx hown (mvT hZ (own_w hw 0 rfl)) (g := (mkF m 177 #[.val (.int p1), .val (.int p2), .val (.int p3), .val (.int p4), .val (.long q5), .second, .val (.int (4 : Int32)), .val (.int su), .val (.int rr), .val (.int cp), .val (.ref b118), .unset] [(.int p4)])) rfl (hb hby at_177)) ?_
    show own_Fin p e below s _ _ _ (T131.setTop (mkF m 179 #[.val (.int p1), .val (.int p2), .val (.int p3), .val (.int p4), .val (.long q5), .second, .val (.int (4 : Int32)), .val (.int su), .val (.int rr), .val (.int cp), .val (.ref b118), .unset] [(.int (2147483647 : Int32)), (.int p4)]))
    refine own_Fin.step (fun _ => XS.iand X131.here hx rfl (hb hby at_179) rfl) ?_
    show own_Fin p e below s _ _ _ (T131.setTop (mkF m 180 #[.val (.int p1), .val (.int p2), .val (.int p3), .val (.int p4), .val (.long q5), .second, .val (.int (4 : Int32)), .val (.int su), .val (.int rr), .val (.int cp), .val (.ref b118), .unset] [(.int (p4 &&& (2147483647 : Int32)))]))
    refine own_Fin.step (fun _ => XS.bipush X131.here hx rfl (hb hby at_180)) ?_
    show own_Fin p e below s _ _ _ (T131.setTop (mkF m 182 #[.val (.int p1), .val (.int p2), .val (.int p3), .val (.int p4), .val (.long q5), .second, .val (.int (4 : Int32)), .val (.int su), .val (.int rr), .val (.int cp), .val (.ref b118), .unset] [(.int (7 : Int32)), (.int (p4 &&& (2147483647 : Int32)))]))
    refine own_Fin.step (fun _ => XS.iload X131.here hx rfl (hb hby at_182) rfl) ?_
    show own_Fin p e below s _ _ _ (T131.setTop (mkF m 184 #[.val (.int p1), .val (.int p2), .val (.int p3), .val (.int p4), .val (.long q5), .second, .val (.int (4 : Int32)), .val (.int su), .val (.int rr), .val (.int cp), .val (.ref b118), .unset] [(.int (4 : Int32)), (.int (7 : Int32)), (.int (p4 &&& (2147483647 : Int32)))]))
    refine own_Fin.step (fun _ => XS.isub X131.here hx rfl (hb hby at_184) rfl) ?_
    show own_Fin p e below s _ _ _ (T131.setTop (mkF m 185 #[.val (.int p1), .val (.int p2), .val (.int p3), .val (.int p4), .val (.long q5), .second, .val (.int (4 : Int32)), .val (.int su), .val (.int rr), .val (.int cp), .val (.ref b118), .unset] [(.int (3 : Int32)), (.int (p4 &&& (2147483647 : Int32)))]))
    refine own_Fin.step (fun _ => Jvm.RoadKit.iremM X131 hx rfl (hb hby at_185) rfl (by decide)) ?_
    show own_Fin p e below s _ _ _ (T131.setTop (mkF m 186 #[.val (.int p1), .val (.int p2), .val (.int p3), .val (.int p4), .val (.long q5), .second, .val (.int (4 : Int32)), .val (.int su), .val (.int rr), .val (.int cp), .val (.ref b118), .unset] [(.int ((p4 &&& (2147483647 : Int32)) % (3 : Int32)))]))
    generalize ht0 : ((p4 &&& (2147483647 : Int32)) % (3 : Int32)) = t
    have ht : 0 ≤ t.toInt ∧ t.toInt < 3 := ht0 ▸ own_rem (d := 3) (by decide) (own_nn p4) (by decide)
    have nx1 := (own_ix (t := t) (i := 1) (iv := 1) (by decide) ht (by decide) (by decide)).2
    have nx2 := (own_ix (t := t) (i := 2) (iv := 2) (by decide) ht (by decide) (by decide)).2
    have nx3 := (own_ix (t := t) (i := 3) (iv := 3) (by decide) ht (by decide) (by decide)).2
    refine own_Fin.step (fun _ => XS.istore X131.here hx rfl (hb hby at_186) rfl (l' := #[.val (.int p1), .val (.int p2), .val (.int p3), .val (.int p4), .val (.long q5), .second, .val (.int (4 : Int32)), .val (.int su), .val (.int rr), .val (.int cp), .val (.ref b118), .val (.int t)]) rfl) ?_
    show own_Fin p e below s _ _ _ (T131.setTop (mkF m 188 #[.val (.int p1), .val (.int p2), .val (.int p3), .val (.int p4), .val (.long q5), .second, .val (.int (4 : Int32)), .val (.int su), .val (.int rr), .val (.int cp), .val (.ref b118), .val (.int t)] []))
    refine own_Fin.step (fun _ => XS.iload X131.here hx rfl (hb hby at_188) rfl) ?_
    show own_Fin p e below s _ _ _ (T131.setTop (mkF m 190 #[.val (.int p1), .val (.int p2), .val (.int p3), .val (.int p4), .val (.long q5), .second, .val (.int (4 : Int32)), .val (.int su), .val (.int rr), .val (.int cp), .val (.ref b118), .val (.int t)] [(.int (4 : Int32))]))
    refine own_Fin.step (fun _ => XS.iconst X131.here hx rfl (hb hby at_190)) ?_
    show own_Fin p e below s _ _ _ (T131.setTop (mkF m 191 #[.val (.int p1), .val (.int p2), .val (.int p3), .val (.int p4), .val (.long q5), .second, .val (.int (4 : Int32)), .val (.int su), .val (.int rr), .val (.int cp), .val (.ref b118), .val (.int t)] [(.int (2 : Int32)), (.int (4 : Int32))]))
    refine own_Fin.step (fun _ => XS.icmpYes X131.here hx rfl (pc0 := 191) (pc' := 229) rfl (hb hby at_191) rfl (XT.ii_ne_t (by decide : ¬ ((4 : Int32) = (2 : Int32)))) (by decide) (by decide)) ?_
    show own_Fin p e below s _ _ _ (T131.setTop (mkF m 229 #[.val (.int p1), .val (.int p2), .val (.int p3), .val (.int p4), .val (.long q5), .second, .val (.int (4 : Int32)), .val (.int su), .val (.int rr), .val (.int cp), .val (.ref b118), .val (.int t)] []))
    refine own_Fin.step (fun _ => XS.iload X131.here hx rfl (hb hby at_229) rfl) ?_
    show own_Fin p e below s _ _ _ (T131.setTop (mkF m 231 #[.val (.int p1), .val (.int p2), .val (.int p3), .val (.int p4), .val (.long q5), .second, .val (.int (4 : Int32)), .val (.int su), .val (.int rr), .val (.int cp), .val (.ref b118), .val (.int t)] [(.int (4 : Int32))]))
    refine own_Fin.step (fun _ => XS.iconst X131.here hx rfl (hb hby at_231)) ?_
    show own_Fin p e below s _ _ _ (T131.setTop (mkF m 232 #[.val (.int p1), .val (.int p2), .val (.int p3), .val (.int p4), .val (.long q5), .second, .val (.int (4 : Int32)), .val (.int su), .val (.int rr), .val (.int cp), .val (.ref b118), .val (.int t)] [(.int (3 : Int32)), (.int (4 : Int32))]))
    refine own_Fin.step (fun _ => XS.icmpYes X131.here hx rfl (pc0 := 232) (pc' := 290) rfl (hb hby at_232) rfl (XT.ii_ne_t (by decide : ¬ ((4 : Int32) = (3 : Int32)))) (by decide) (by decide)) ?_
    show own_Fin p e below s _ _ _ (T131.setTop (mkF m 290 #[.val (.int p1), .val (.int p2), .val (.int p3), .val (.int p4), .val (.long q5), .second, .val (.int (4 : Int32)), .val (.int su), .val (.int rr), .val (.int cp), .val (.ref b118), .val (.int t)] []))
    refine own_Fin.step (fun _ => XS.aload X131.here hx rfl (hb hby at_290) rfl rfl) ?_
    show own_Fin p e below s _ _ _ (T131.setTop (mkF m 292 #[.val (.int p1), .val (.int p2), .val (.int p3), .val (.int p4), .val (.long q5), .second, .val (.int (4 : Int32)), .val (.int su), .val (.int rr), .val (.int cp), .val (.ref b118), .val (.int t)] [(.ref b118)]))
    refine own_Fin.step (fun _ => XS.iload X131.here hx rfl (hb hby at_292) rfl) ?_
    show own_Fin p e below s _ _ _ (T131.setTop (mkF m 294 #[.val (.int p1), .val (.int p2), .val (.int p3), .val (.int p4), .val (.long q5), .second, .val (.int (4 : Int32)), .val (.int su), .val (.int rr), .val (.int cp), .val (.ref b118), .val (.int t)] [(.int t), (.ref b118)]))
    refine own_Fin.step (fun _ => XS.sipush X131.here hx rfl (hb hby at_294)) ?_
    show own_Fin p e below s _ _ _ (T131.setTop (mkF m 297 #[.val (.int p1), .val (.int p2), .val (.int p3), .val (.int p4), .val (.long q5), .second, .val (.int (4 : Int32)), .val (.int su), .val (.int rr), .val (.int cp), .val (.ref b118), .val (.int t)] [(.int (240 : Int32)), (.int t), (.ref b118)]))
    refine own_Fin.step (fun _ => XS.iload X131.here hx rfl (hb hby at_297) rfl) ?_
    show own_Fin p e below s _ _ _ (T131.setTop (mkF m 299 #[.val (.int p1), .val (.int p2), .val (.int p3), .val (.int p4), .val (.long q5), .second, .val (.int (4 : Int32)), .val (.int su), .val (.int rr), .val (.int cp), .val (.ref b118), .val (.int t)] [(.int cp), (.int (240 : Int32)), (.int t), (.ref b118)]))
    refine own_Fin.step (fun _ => XS.bipush X131.here hx rfl (hb hby at_299)) ?_
    show own_Fin p e below s _ _ _ (T131.setTop (mkF m 301 #[.val (.int p1), .val (.int p2), .val (.int p3), .val (.int p4), .val (.long q5), .second, .val (.int (4 : Int32)), .val (.int su), .val (.int rr), .val (.int cp), .val (.ref b118), .val (.int t)] [(.int (18 : Int32)), (.int cp), (.int (240 : Int32)), (.int t), (.ref b118)]))
    refine own_Fin.step (fun _ => XS.iushr X131.here hx rfl (hb hby at_301) rfl) ?_
    show own_Fin p e below s _ _ _ (T131.setTop (mkF m 302 #[.val (.int p1), .val (.int p2), .val (.int p3), .val (.int p4), .val (.long q5), .second, .val (.int (4 : Int32)), .val (.int su), .val (.int rr), .val (.int cp), .val (.ref b118), .val (.int t)] [(.int ((cp.toUInt32 >>> ((18 : Int32) &&& 31).toUInt32).toInt32)), (.int (240 : Int32)), (.int t), (.ref b118)]))
    refine own_Fin.step (fun _ => XS.ior X131.here hx rfl (hb hby at_302) rfl) ?_
    show own_Fin p e below s _ _ _ (T131.setTop (mkF m 303 #[.val (.int p1), .val (.int p2), .val (.int p3), .val (.int p4), .val (.long q5), .second, .val (.int (4 : Int32)), .val (.int su), .val (.int rr), .val (.int cp), .val (.ref b118), .val (.int t)] [(.int ((240 : Int32) ||| ((cp.toUInt32 >>> ((18 : Int32) &&& 31).toUInt32).toInt32))), (.int t), (.ref b118)]))
    refine own_Fin.step (fun _ => XS.i2b X131.here hx rfl (hb hby at_303) rfl) ?_
    show own_Fin p e below s _ _ _ (T131.setTop (mkF m 304 #[.val (.int p1), .val (.int p2), .val (.int p3), .val (.int p4), .val (.long q5), .second, .val (.int (4 : Int32)), .val (.int su), .val (.int rr), .val (.int cp), .val (.ref b118), .val (.int t)] [(.int (((240 : Int32) ||| ((cp.toUInt32 >>> ((18 : Int32) &&& 31).toUInt32).toInt32)).toInt8.toInt32)), (.int t), (.ref b118)]))
    obtain ⟨T133, h133, X133, e133, V133, W133, st133⟩ := own_stFB X131 hx hZ e131 V131 (j := t) (own_ix0 ht (by decide)) (g := (mkF m 304 #[.val (.int p1), .val (.int p2), .val (.int p3), .val (.int p4), .val (.long q5), .second, .val (.int (4 : Int32)), .val (.int su), .val (.int rr), .val (.int cp), .val (.ref b118), .val (.int t)] [(.int (((240 : Int32) ||| ((cp.toUInt32 >>> ((18 : Int32) &&& 31).toUInt32).toInt32)).toInt8.toInt32)), (.int t), (.ref b118)])) rfl rfl (hb hby at_304)
    have N133 := Fr.snoc X133 N131 ge119
    have Z133 : n0 ≤ h133.size := Nat.le_trans Z131 (Nat.le_of_eq W133.size.symm)
    refine own_Fin.step st133 ?_
    show own_Fin p e below s _ _ _ (T133.setTop (mkF m 305 #[.val (.int p1), .val (.int p2), .val (.int p3), .val (.int p4), .val (.long q5), .second, .val (.int (4 : Int32)), .val (.int su), .val (.int rr), .val (.int cp), .val (.ref b118), .val (.int t)] []))
    refine own_Fin.step (fun _ => XS.aload X133.here hx rfl (hb hby at_305) rfl rfl) ?_
    show own_Fin p e below s _ _ _ (T133.setTop (mkF m 307 #[.val (.int p1), .val (.int p2), .val (.int p3), .val (.int p4), .val (.long q5), .second, .val (.int (4 : Int32)), .val (.int su), .val (.int rr), .val (.int cp), .val (.ref b118), .val (.int t)] [(.ref b118)]))
    refine own_Fin.step (fun _ => XS.iload X133.here hx rfl (hb hby at_307) rfl) ?_
    show own_Fin p e below s _ _ _ (T133.setTop (mkF m 309 #[.val (.int p1), .val (.int p2), .val (.int p3), .val (.int p4), .val (.long q5), .second, .val (.int (4 : Int32)), .val (.int su), .val (.int rr), .val (.int cp), .val (.ref b118), .val (.int t)] [(.int t), (.ref b118)]))
    refine own_Fin.step (fun _ => XS.iconst X133.here hx rfl (hb hby at_309)) ?_
    show own_Fin p e below s _ _ _ (T133.setTop (mkF m 310 #[.val (.int p1), .val (.int p2), .val (.int p3), .val (.int p4), .val (.long q5), .second, .val (.int (4 : Int32)), .val (.int su), .val (.int rr), .val (.int cp), .val (.ref b118), .val (.int t)] [(.int (1 : Int32)), (.int t), (.ref b118)]))
    refine own_Fin.step (fun _ => XS.iadd X133.here hx rfl (hb hby at_310) rfl) ?_
    show own_Fin p e below s _ _ _ (T133.setTop (mkF m 311 #[.val (.int p1), .val (.int p2), .val (.int p3), .val (.int p4), .val (.long q5), .second, .val (.int (4 : Int32)), .val (.int su), .val (.int rr), .val (.int cp), .val (.ref b118), .val (.int t)] [(.int (t + (1 : Int32))), (.ref b118)]))
    refine own_Fin.step (fun _ => XS.sipush X133.here hx rfl (hb hby at_311)) ?_
    show own_Fin p e below s _ _ _ (T133.setTop (mkF m 314 #[.val (.int p1), .val (.int p2), .val (.int p3), .val (.int p4), .val (.long q5), .second, .val (.int (4 : Int32)), .val (.int su), .val (.int rr), .val (.int cp), .val (.ref b118), .val (.int t)] [(.int (128 : Int32)), (.int (t + (1 : Int32))), (.ref b118)]))
    refine own_Fin.step (fun _ => XS.iload X133.here hx rfl (hb hby at_314) rfl) ?_
    show own_Fin p e below s _ _ _ (T133.setTop (mkF m 316 #[.val (.int p1), .val (.int p2), .val (.int p3), .val (.int p4), .val (.long q5), .second, .val (.int (4 : Int32)), .val (.int su), .val (.int rr), .val (.int cp), .val (.ref b118), .val (.int t)] [(.int cp), (.int (128 : Int32)), (.int (t + (1 : Int32))), (.ref b118)]))
    refine own_Fin.step (fun _ => XS.bipush X133.here hx rfl (hb hby at_316)) ?_
    show own_Fin p e below s _ _ _ (T133.setTop (mkF m 318 #[.val (.int p1), .val (.int p2), .val (.int p3), .val (.int p4), .val (.long q5), .second, .val (.int (4 : Int32)), .val (.int su), .val (.int rr), .val (.int cp), .val (.ref b118), .val (.int t)] [(.int (12 : Int32)), (.int cp), (.int (128 : Int32)), (.int (t + (1 : Int32))), (.ref b118)]))
    refine own_Fin.step (fun _ => XS.iushr X133.here hx rfl (hb hby at_318) rfl) ?_
    show own_Fin p e below s _ _ _ (T133.setTop (mkF m 319 #[.val (.int p1), .val (.int p2), .val (.int p3), .val (.int p4), .val (.long q5), .second, .val (.int (4 : Int32)), .val (.int su), .val (.int rr), .val (.int cp), .val (.ref b118), .val (.int t)] [(.int ((cp.toUInt32 >>> ((12 : Int32) &&& 31).toUInt32).toInt32)), (.int (128 : Int32)), (.int (t + (1 : Int32))), (.ref b118)]))
    refine own_Fin.step (fun _ => XS.bipush X133.here hx rfl (hb hby at_319)) ?_
    show own_Fin p e below s _ _ _ (T133.setTop (mkF m 321 #[.val (.int p1), .val (.int p2), .val (.int p3), .val (.int p4), .val (.long q5), .second, .val (.int (4 : Int32)), .val (.int su), .val (.int rr), .val (.int cp), .val (.ref b118), .val (.int t)] [(.int (63 : Int32)), (.int ((cp.toUInt32 >>> ((12 : Int32) &&& 31).toUInt32).toInt32)), (.int (128 : Int32)), (.int (t + (1 : Int32))), (.ref b118)]))
    refine own_Fin.step (fun _ => XS.iand X133.here hx rfl (hb hby at_321) rfl) ?_
    show own_Fin p e below s _ _ _ (T133.setTop (mkF m 322 #[.val (.int p1), .val (.int p2), .val (.int p3), .val (.int p4), .val (.long q5), .second, .val (.int (4 : Int32)), .val (.int su), .val (.int rr), .val (.int cp), .val (.ref b118), .val (.int t)] [(.int (((cp.toUInt32 >>> ((12 : Int32) &&& 31).toUInt32).toInt32) &&& (63 : Int32))), (.int (128 : Int32)), (.int (t + (1 : Int32))), (.ref b118)]))
    refine own_Fin.step (fun _ => XS.ior X133.here hx rfl (hb hby at_322) rfl) ?_
    show own_Fin p e below s _ _ _ (T133.setTop (mkF m 323 #[.val (.int p1), .val (.int p2), .val (.int p3), .val (.int p4), .val (.long q5), .second, .val (.int (4 : Int32)), .val (.int su), .val (.int rr), .val (.int cp), .val (.ref b118), .val (.int t)] [(.int ((128 : Int32) ||| (((cp.toUInt32 >>> ((12 : Int32) &&& 31).toUInt32).toInt32) &&& (63 : Int32)))), (.int (t + (1 : Int32))), (.ref b118)]))
    refine own_Fin.step (fun _ => XS.i2b X133.here hx rfl (hb hby at_323) rfl) ?_
    show own_Fin p e below s _ _ _ (T133.setTop (mkF m 324 #[.val (.int p1), .val (.int p2), .val (.int p3), .val (.int p4), .val (.long q5), .second, .val (.int (4 : Int32)), .val (.int su), .val (.int rr), .val (.int cp), .val (.ref b118), .val (.int t)] [(.int (((128 : Int32) ||| (((cp.toUInt32 >>> ((12 : Int32) &&& 31).toUInt32).toInt32) &&& (63 : Int32))).toInt8.toInt32)), (.int (t + (1 : Int32))), (.ref b118)]))
    obtain ⟨T135, h135, X135, e135, V135, W135, st135⟩ := own_stFB X133 hx hZ e133 V133 (j := (t + (1 : Int32))) (own_ix (i := 1) (iv := 1) (by decide) ht (by decide) (by decide)).1 (g := (mkF m 324 #[.val (.int p1), .val (.int p2), .val (.int p3), .val (.int p4), .val (.long q5), .second, .val (.int (4 : Int32)), .val (.int su), .val (.int rr), .val (.int cp), .val (.ref b118), .val (.int t)] [(.int (((128 : Int32) ||| (((cp.toUInt32 >>> ((12 : Int32) &&& 31).toUInt32).toInt32) &&& (63 : Int32))).toInt8.toInt32)), (.int (t + (1 : Int32))), (.ref b118)])) rfl rfl (hb hby at_324)
    have N135 := Fr.snoc X135 N133 ge119
    have Z135 : n0 ≤ h135.size := Nat.le_trans Z133 (Nat.le_of_eq W135.size.symm)
    refine own_Fin.step st135 ?_
    show own_Fin p e below s _ _ _ (T135.setTop (mkF m 325 #[.val (.int p1), .val (.int p2), .val (.int p3), .val (.int p4), .val (.long q5), .second, .val (.int (4 : Int32)), .val (.int su), .val (.int rr), .val (.int cp), .val (.ref b118), .val (.int t)] []))
    refine own_Fin.step (fun _ => XS.aload X135.here hx rfl (hb hby at_325) rfl rfl) ?_
    show own_Fin p e below s _ _ _ (T135.setTop (mkF m 327 #[.val (.int p1), .val (.int p2), .val (.int p3), .val (.int p4), .val (.long q5), .second, .val (.int (4 : Int32)), .val (.int su), .val (.int rr), .val (.int cp), .val (.ref b118), .val (.int t)] [(.ref b118)]))
    refine own_Fin.step (fun _ => XS.iload X135.here hx rfl (hb hby at_327) rfl) ?_
    show own_Fin p e below s _ _ _ (T135.setTop (mkF m 329 #[.val (.int p1), .val (.int p2), .val (.int p3), .val (.int p4), .val (.long q5), .second, .val (.int (4 : Int32)), .val (.int su), .val (.int rr), .val (.int cp), .val (.ref b118), .val (.int t)] [(.int t), (.ref b118)]))
    refine own_Fin.step (fun _ => XS.iconst X135.here hx rfl (hb hby at_329)) ?_
    show own_Fin p e below s _ _ _ (T135.setTop (mkF m 330 #[.val (.int p1), .val (.int p2), .val (.int p3), .val (.int p4), .val (.long q5), .second, .val (.int (4 : Int32)), .val (.int su), .val (.int rr), .val (.int cp), .val (.ref b118), .val (.int t)] [(.int (2 : Int32)), (.int t), (.ref b118)]))
    refine own_Fin.step (fun _ => XS.iadd X135.here hx rfl (hb hby at_330) rfl) ?_
    show own_Fin p e below s _ _ _ (T135.setTop (mkF m 331 #[.val (.int p1), .val (.int p2), .val (.int p3), .val (.int p4), .val (.long q5), .second, .val (.int (4 : Int32)), .val (.int su), .val (.int rr), .val (.int cp), .val (.ref b118), .val (.int t)] [(.int (t + (2 : Int32))), (.ref b118)]))
    refine own_Fin.step (fun _ => XS.sipush X135.here hx rfl (hb hby at_331)) ?_
    show own_Fin p e below s _ _ _ (T135.setTop (mkF m 334 #[.val (.int p1), .val (.int p2), .val (.int p3), .val (.int p4), .val (.long q5), .second, .val (.int (4 : Int32)), .val (.int su), .val (.int rr), .val (.int cp), .val (.ref b118), .val (.int t)] [(.int (128 : Int32)), (.int (t + (2 : Int32))), (.ref b118)]))
    refine own_Fin.step (fun _ => XS.iload X135.here hx rfl (hb hby at_334) rfl) ?_
    show own_Fin p e below s _ _ _ (T135.setTop (mkF m 336 #[.val (.int p1), .val (.int p2), .val (.int p3), .val (.int p4), .val (.long q5), .second, .val (.int (4 : Int32)), .val (.int su), .val (.int rr), .val (.int cp), .val (.ref b118), .val (.int t)] [(.int cp), (.int (128 : Int32)), (.int (t + (2 : Int32))), (.ref b118)]))
    refine own_Fin.step (fun _ => XS.bipush X135.here hx rfl (hb hby at_336)) ?_
    show own_Fin p e below s _ _ _ (T135.setTop (mkF m 338 #[.val (.int p1), .val (.int p2), .val (.int p3), .val (.int p4), .val (.long q5), .second, .val (.int (4 : Int32)), .val (.int su), .val (.int rr), .val (.int cp), .val (.ref b118), .val (.int t)] [(.int (6 : Int32)), (.int cp), (.int (128 : Int32)), (.int (t + (2 : Int32))), (.ref b118)]))
    refine own_Fin.step (fun _ => XS.iushr X135.here hx rfl (hb hby at_338) rfl) ?_
    show own_Fin p e below s _ _ _ (T135.setTop (mkF m 339 #[.val (.int p1), .val (.int p2), .val (.int p3), .val (.int p4), .val (.long q5), .second, .val (.int (4 : Int32)), .val (.int su), .val (.int rr), .val (.int cp), .val (.ref b118), .val (.int t)] [(.int ((cp.toUInt32 >>> ((6 : Int32) &&& 31).toUInt32).toInt32)), (.int (128 : Int32)), (.int (t + (2 : Int32))), (.ref b118)]))
    refine own_Fin.step (fun _ => XS.bipush X135.here hx rfl (hb hby at_339)) ?_
    show own_Fin p e below s _ _ _ (T135.setTop (mkF m 341 #[.val (.int p1), .val (.int p2), .val (.int p3), .val (.int p4), .val (.long q5), .second, .val (.int (4 : Int32)), .val (.int su), .val (.int rr), .val (.int cp), .val (.ref b118), .val (.int t)] [(.int (63 : Int32)), (.int ((cp.toUInt32 >>> ((6 : Int32) &&& 31).toUInt32).toInt32)), (.int (128 : Int32)), (.int (t + (2 : Int32))), (.ref b118)]))
    refine own_Fin.step (fun _ => XS.iand X135.here hx rfl (hb hby at_341) rfl) ?_
    show own_Fin p e below s _ _ _ (T135.setTop (mkF m 342 #[.val (.int p1), .val (.int p2), .val (.int p3), .val (.int p4), .val (.long q5), .second, .val (.int (4 : Int32)), .val (.int su), .val (.int rr), .val (.int cp), .val (.ref b118), .val (.int t)] [(.int (((cp.toUInt32 >>> ((6 : Int32) &&& 31).toUInt32).toInt32) &&& (63 : Int32))), (.int (128 : Int32)), (.int (t + (2 : Int32))), (.ref b118)]))
    refine own_Fin.step (fun _ => XS.ior X135.here hx rfl (hb hby at_342) rfl) ?_
    show own_Fin p e below s _ _ _ (T135.setTop (mkF m 343 #[.val (.int p1), .val (.int p2), .val (.int p3), .val (.int p4), .val (.long q5), .second, .val (.int (4 : Int32)), .val (.int su), .val (.int rr), .val (.int cp), .val (.ref b118), .val (.int t)] [(.int ((128 : Int32) ||| (((cp.toUInt32 >>> ((6 : Int32) &&& 31).toUInt32).toInt32) &&& (63 : Int32)))), (.int (t + (2 : Int32))), (.ref b118)]))
    refine own_Fin.step (fun _ => XS.i2b X135.here hx rfl (hb hby at_343) rfl) ?_
    show own_Fin p e below s _ _ _ (T135.setTop (mkF m 344 #[.val (.int p1), .val (.int p2), .val (.int p3), .val (.int p4), .val (.long q5), .second, .val (.int (4 : Int32)), .val (.int su), .val (.int rr), .val (.int cp), .val (.ref b118), .val (.int t)] [(.int (((128 : Int32) ||| (((cp.toUInt32 >>> ((6 : Int32) &&& 31).toUInt32).toInt32) &&& (63 : Int32))).toInt8.toInt32)), (.int (t + (2 : Int32))), (.ref b118)]))
    obtain ⟨T137, h137, X137, e137, V137, W137, st137⟩ := own_stFB X135 hx hZ e135 V135 (j := (t + (2 : Int32))) (own_ix (i := 2) (iv := 2) (by decide) ht (by decide) (by decide)).1 (g := (mkF m 344 #[.val (.int p1), .val (.int p2), .val (.int p3), .val (.int p4), .val (.long q5), .second, .val (.int (4 : Int32)), .val (.int su), .val (.int rr), .val (.int cp), .val (.ref b118), .val (.int t)] [(.int (((128 : Int32) ||| (((cp.toUInt32 >>> ((6 : Int32) &&& 31).toUInt32).toInt32) &&& (63 : Int32))).toInt8.toInt32)), (.int (t + (2 : Int32))), (.ref b118)])) rfl rfl (hb hby at_344)
    have N137 := Fr.snoc X137 N135 ge119
    have Z137 : n0 ≤ h137.size := Nat.le_trans Z135 (Nat.le_of_eq W137.size.symm)
    refine own_Fin.step st137 ?_
    show own_Fin p e below s _ _ _ (T137.setTop (mkF m 345 #[.val (.int p1), .val (.int p2), .val (.int p3), .val (.int p4), .val (.long q5), .second, .val (.int (4 : Int32)), .val (.int su), .val (.int rr), .val (.int cp), .val (.ref b118), .val (.int t)] []))
    refine own_Fin.step (fun _ => XS.aload X137.here hx rfl (hb hby at_345) rfl rfl) ?_
    show own_Fin p e below s _ _ _ (T137.setTop (mkF m 347 #[.val (.int p1), .val (.int p2), .val (.int p3), .val (.int p4), .val (.long q5), .second, .val (.int (4 : Int32)), .val (.int su), .val (.int rr), .val (.int cp), .val (.ref b118), .val (.int t)] [(.ref b118)]))
    refine own_Fin.step (fun _ => XS.iload X137.here hx rfl (hb hby at_347) rfl) ?_
    show own_Fin p e below s _ _ _ (T137.setTop (mkF m 349 #[.val (.int p1), .val (.int p2), .val (.int p3), .val (.int p4), .val (.long q5), .second, .val (.int (4 : Int32)), .val (.int su), .val (.int rr), .val (.int cp), .val (.ref b118), .val (.int t)] [(.int t), (.ref b118)]))
    refine own_Fin.step (fun _ => XS.iconst X137.here hx rfl (hb hby at_349)) ?_
    show own_Fin p e below s _ _ _ (T137.setTop (mkF m 350 #[.val (.int p1), .val (.int p2), .val (.int p3), .val (.int p4), .val (.long q5), .second, .val (.int (4 : Int32)), .val (.int su), .val (.int rr), .val (.int cp), .val (.ref b118), .val (.int t)] [(.int (3 : Int32)), (.int t), (.ref b118)]))
    refine own_Fin.step (fun _ => XS.iadd X137.here hx rfl (hb hby at_350) rfl) ?_
    show own_Fin p e below s _ _ _ (T137.setTop (mkF m 351 #[.val (.int p1), .val (.int p2), .val (.int p3), .val (.int p4), .val (.long q5), .second, .val (.int (4 : Int32)), .val (.int su), .val (.int rr), .val (.int cp), .val (.ref b118), .val (.int t)] [(.int (t + (3 : Int32))), (.ref b118)]))
    refine own_Fin.step (fun _ => XS.sipush X137.here hx rfl (hb hby at_351)) ?_
    show own_Fin p e below s _ _ _ (T137.setTop (mkF m 354 #[.val (.int p1), .val (.int p2), .val (.int p3), .val (.int p4), .val (.long q5), .second, .val (.int (4 : Int32)), .val (.int su), .val (.int rr), .val (.int cp), .val (.ref b118), .val (.int t)] [(.int (128 : Int32)), (.int (t + (3 : Int32))), (.ref b118)]))
    refine own_Fin.step (fun _ => XS.iload X137.here hx rfl (hb hby at_354) rfl) ?_
    show own_Fin p e below s _ _ _ (T137.setTop (mkF m 356 #[.val (.int p1), .val (.int p2), .val (.int p3), .val (.int p4), .val (.long q5), .second, .val (.int (4 : Int32)), .val (.int su), .val (.int rr), .val (.int cp), .val (.ref b118), .val (.int t)] [(.int cp), (.int (128 : Int32)), (.int (t + (3 : Int32))), (.ref b118)]))
    refine own_Fin.step (fun _ => XS.bipush X137.here hx rfl (hb hby at_356)) ?_
    show own_Fin p e below s _ _ _ (T137.setTop (mkF m 358 #[.val (.int p1), .val (.int p2), .val (.int p3), .val (.int p4), .val (.long q5), .second, .val (.int (4 : Int32)), .val (.int su), .val (.int rr), .val (.int cp), .val (.ref b118), .val (.int t)] [(.int (63 : Int32)), (.int cp), (.int (128 : Int32)), (.int (t + (3 : Int32))), (.ref b118)]))
    refine own_Fin.step (fun _ => XS.iand X137.here hx rfl (hb hby at_358) rfl) ?_
    show own_Fin p e below s _ _ _ (T137.setTop (mkF m 359 #[.val (.int p1), .val (.int p2), .val (.int p3), .val (.int p4), .val (.long q5), .second, .val (.int (4 : Int32)), .val (.int su), .val (.int rr), .val (.int cp), .val (.ref b118), .val (.int t)] [(.int (cp &&& (63 : Int32))), (.int (128 : Int32)), (.int (t + (3 : Int32))), (.ref b118)]))
    refine own_Fin.step (fun _ => XS.ior X137.here hx rfl (hb hby at_359) rfl) ?_
    show own_Fin p e below s _ _ _ (T137.setTop (mkF m 360 #[.val (.int p1), .val (.int p2), .val (.int p3), .val (.int p4), .val (.long q5), .second, .val (.int (4 : Int32)), .val (.int su), .val (.int rr), .val (.int cp), .val (.ref b118), .val (.int t)] [(.int ((128 : Int32) ||| (cp &&& (63 : Int32)))), (.int (t + (3 : Int32))), (.ref b118)]))
    refine own_Fin.step (fun _ => XS.i2b X137.here hx rfl (hb hby at_360) rfl) ?_
    show own_Fin p e below s _ _ _ (T137.setTop (mkF m 361 #[.val (.int p1), .val (.int p2), .val (.int p3), .val (.int p4), .val (.long q5), .second, .val (.int (4 : Int32)), .val (.int su), .val (.int rr), .val (.int cp), .val (.ref b118), .val (.int t)] [(.int (((128 : Int32) ||| (cp &&& (63 : Int32))).toInt8.toInt32)), (.int (t + (3 : Int32))), (.ref b118)]))
    obtain ⟨T139, h139, X139, e139, V139, W139, st139⟩ := own_stFB X137 hx hZ e137 V137 (j := (t + (3 : Int32))) (own_ix (i := 3) (iv := 3) (by decide) ht (by decide) (by decide)).1 (g := (mkF m 361 #[.val (.int p1), .val (.int p2), .val (.int p3), .val (.int p4), .val (.long q5), .second, .val (.int (4 : Int32)), .val (.int su), .val (.int rr), .val (.int cp), .val (.ref b118), .val (.int t)] [(.int (((128 : Int32) ||| (cp &&& (63 : Int32))).toInt8.toInt32)), (.int (t + (3 : Int32))), (.ref b118)])) rfl rfl (hb hby at_361)
    have N139 := Fr.snoc X139 N137 ge119
    have Z139 : n0 ≤ h139.size := Nat.le_trans Z137 (Nat.le_of_eq W139.size.symm)
    refine own_Fin.step st139 ?_
    show own_Fin p e below s _ _ _ (T139.setTop (mkF m 362 #[.val (.int p1), .val (.int p2), .val (.int p3), .val (.int p4), .val (.long q5), .second, .val (.int (4 : Int32)), .val (.int su), .val (.int rr), .val (.int cp), .val (.ref b118), .val (.int t)] []))
    refine own_Fin.step (fun _ => XS.aload X139.here hx rfl (hb hby at_362) rfl rfl) ?_
    show own_Fin p e below s _ _ _ (T139.setTop (mkF m 364 #[.val (.int p1), .val (.int p2), .val (.int p3), .val (.int p4), .val (.long q5), .second, .val (.int (4 : Int32)), .val (.int su), .val (.int rr), .val (.int cp), .val (.ref b118), .val (.int t)] [(.ref b118)]))
    refine own_Fin.step (fun _ => XS.iload X139.here hx rfl (hb hby at_364) rfl) ?_
    show own_Fin p e below s _ _ _ (T139.setTop (mkF m 366 #[.val (.int p1), .val (.int p2), .val (.int p3), .val (.int p4), .val (.long q5), .second, .val (.int (4 : Int32)), .val (.int su), .val (.int rr), .val (.int cp), .val (.ref b118), .val (.int t)] [(.int t), (.ref b118)]))
    refine own_Fin.step (fun _ => XS.iload X139.here hx rfl (hb hby at_366) rfl) ?_
    show own_Fin p e below s _ _ _ (T139.setTop (mkF m 368 #[.val (.int p1), .val (.int p2), .val (.int p3), .val (.int p4), .val (.long q5), .second, .val (.int (4 : Int32)), .val (.int su), .val (.int rr), .val (.int cp), .val (.ref b118), .val (.int t)] [(.int (4 : Int32)), (.int t), (.ref b118)]))
    refine own_Fin.step (fun _ => XS.iload X139.here hx rfl (hb hby at_368) rfl) ?_
    show own_Fin p e below s _ _ _ (T139.setTop (mkF m 370 #[.val (.int p1), .val (.int p2), .val (.int p3), .val (.int p4), .val (.long q5), .second, .val (.int (4 : Int32)), .val (.int su), .val (.int rr), .val (.int cp), .val (.ref b118), .val (.int t)] [(.int su), (.int (4 : Int32)), (.int t), (.ref b118)]))
    obtain ⟨_, T141, L141, X141, ⟨rfl, N141q, e141⟩, st141⟩ := own_callS X139 hx hZ hown (own_w hw 2 rfl) (own_w hw 3 rfl) (own_w hw 4 rfl) (own_w hw 5 rfl) (by decide) (rm3c l Z a0 hw b118 t su k118 (own_upd (own_upd (own_upd (own_upd (own_upd (own_upd (own_upd (own_upd (own_upd (own_upd (fun _ => (0 : Int32)) ((0 : Int32)).toNatClampNeg (nar .byte ((q5.toInt32).toInt8.toInt32))) ((1 : Int32)).toNatClampNeg (nar .byte ((((q5.toUInt64 >>> ((8 : Int32) &&& 0x3f).toInt64.toUInt64).toInt64).toInt32).toInt8.toInt32))) ((2 : Int32)).toNatClampNeg (nar .byte ((((q5.toUInt64 >>> ((16 : Int32) &&& 0x3f).toInt64.toUInt64).toInt64).toInt32).toInt8.toInt32))) ((3 : Int32)).toNatClampNeg (nar .byte ((((q5.toUInt64 >>> ((24 : Int32) &&& 0x3f).toInt64.toUInt64).toInt64).toInt32).toInt8.toInt32))) ((4 : Int32)).toNatClampNeg (nar .byte ((((q5.toUInt64 >>> ((32 : Int32) &&& 0x3f).toInt64.toUInt64).toInt64).toInt32).toInt8.toInt32))) ((5 : Int32)).toNatClampNeg (nar .byte ((((q5.toUInt64 >>> ((40 : Int32) &&& 0x3f).toInt64.toUInt64).toInt64).toInt32).toInt8.toInt32))) (t).toNatClampNeg (nar .byte (((240 : Int32) ||| ((cp.toUInt32 >>> ((18 : Int32) &&& 31).toUInt32).toInt32)).toInt8.toInt32))) ((t + (1 : Int32))).toNatClampNeg (nar .byte (((128 : Int32) ||| (((cp.toUInt32 >>> ((12 : Int32) &&& 31).toUInt32).toInt32) &&& (63 : Int32))).toInt8.toInt32))) ((t + (2 : Int32))).toNatClampNeg (nar .byte (((128 : Int32) ||| (((cp.toUInt32 >>> ((6 : Int32) &&& 31).toUInt32).toInt32) &&& (63 : Int32))).toInt8.toInt32))) ((t + (3 : Int32))).toNatClampNeg (nar .byte (((128 : Int32) ||| (cp &&& (63 : Int32))).toInt8.toInt32))) (nar .byte (((240 : Int32) ||| ((cp.toUInt32 >>> ((18 : Int32) &&& 31).toUInt32).toInt32)).toInt8.toInt32)) (nar .byte (((128 : Int32) ||| (((cp.toUInt32 >>> ((12 : Int32) &&& 31).toUInt32).toInt32) &&& (63 : Int32))).toInt8.toInt32)) (nar .byte (((128 : Int32) ||| (((cp.toUInt32 >>> ((6 : Int32) &&& 31).toUInt32).toInt32) &&& (63 : Int32))).toInt8.toInt32)) (nar .byte (((128 : Int32) ||| (cp &&& (63 : Int32))).toInt8.toInt32)) cp h139 n0 Z139 V139 (own_ix0 ht (by decide)) (own_ix (i := 1) (iv := 1) (by decide) ht (by decide) (by decide)).1 (own_ix (i := 2) (iv := 2) (by decide) ht (by decide) (by decide)).1 (own_ix (i := 3) (iv := 3) (by decide) ht (by decide) (by decide)).1 (by simp [own_upd, nx1, nx2, nx3]) (by simp [own_upd, nx1, nx2, nx3]) (by simp [own_upd, nx1, nx2, nx3]) (by simp [own_upd, nx1, nx2, nx3]) (own_dec4 cp hcp.1 hcp.2).2.1 (own_dec4 cp hcp.1 hcp.2).2.2.1 (own_dec4 cp hcp.1 hcp.2).2.2.2  (own_dec4 cp hcp.1 hcp.2).1 (own_nlt (d := 65536) (by decide) hcp.1) (own_ngt (d := 1114111) (by decide) (by omega))) (by decide) (by decide) e139 (W := 0) (g := (mkF m 370 #[.val (.int p1), .val (.int p2), .val (.int p3), .val (.int p4), .val (.long q5), .second, .val (.int (4 : Int32)), .val (.int su), .val (.int rr), .val (.int cp), .val (.ref b118), .val (.int t)] [(.int su), (.int (4 : Int32)), (.int t), (.ref b118)])) rfl (by rw [hml]; rfl) (argsL := [(.ref b118), (.int t), (.int (4 : Int32)), (.int su)]) (rest := []) (lenOf pd_2 rfl) rfl rfl (by show 2 * 0 + _ ≤ _; exact Nat.le_of_eq rfl) (hb hby at_370) (by decide) (by decide)
    have N141 := Fr.app N139 N141q
    refine own_Fin.step st141 ?_
    show own_Fin p e below s _ _ _ (T141.setTop (mkF m 373 #[.val (.int p1), .val (.int p2), .val (.int p3), .val (.int p4), .val (.long q5), .second, .val (.int (4 : Int32)), .val (.int su), .val (.int rr), .val (.int cp), .val (.ref b118), .val (.int t)] [(.int cp)]))
    refine own_Fin.step (fun _ => XS.iload X141.here hx rfl (hb hby at_373) rfl) ?_
    show own_Fin p e below s _ _ _ (T141.setTop (mkF m 375 #[.val (.int p1), .val (.int p2), .val (.int p3), .val (.int p4), .val (.long q5), .second, .val (.int (4 : Int32)), .val (.int su), .val (.int rr), .val (.int cp), .val (.ref b118), .val (.int t)] [(.int cp), (.int cp)]))
    refine own_Fin.step (fun _ => XS.icmpNo X141.here hx rfl (hb hby at_375) rfl (XT.ii_ne_f (rfl : cp = cp))) ?_
    show own_Fin p e below s _ _ _ (T141.setTop (mkF m 378 #[.val (.int p1), .val (.int p2), .val (.int p3), .val (.int p4), .val (.long q5), .second, .val (.int (4 : Int32)), .val (.int su), .val (.int rr), .val (.int cp), .val (.ref b118), .val (.int t)] []))
    refine own_Fin.step (fun _ => XS.iconst X141.here hx rfl (hb hby at_378)) ?_
    show own_Fin p e below s _ _ _ (T141.setTop (mkF m 379 #[.val (.int p1), .val (.int p2), .val (.int p3), .val (.int p4), .val (.long q5), .second, .val (.int (4 : Int32)), .val (.int su), .val (.int rr), .val (.int cp), .val (.ref b118), .val (.int t)] [(.int (1 : Int32))]))
    refine own_Fin.step (fun _ => XS.goto X141.here hx rfl (pc0 := 379) (pc' := 383) rfl (hb hby at_379) (by decide) (by decide)) ?_
    show own_Fin p e below s _ _ _ (T141.setTop (mkF m 383 #[.val (.int p1), .val (.int p2), .val (.int p3), .val (.int p4), .val (.long q5), .second, .val (.int (4 : Int32)), .val (.int su), .val (.int rr), .val (.int cp), .val (.ref b118), .val (.int t)] [(.int (1 : Int32))]))
    exact own_retN X141 hx hlk (t := .boolean) hret (by simp) (hb hby at_383) ⟨rfl, N141⟩ (by decide) (by decide)
set_option maxRecDepth 65536 in
set_option maxHeartbeats 40000000 in
theorem comes_1 {Post : Tables → Env → Array Value → State → Outcome → State → Prop} (hpost : ∀ tb e args s v u, (limb_1_1.after args s (.returned v) u = true ∧ limb_1_2.after args s (.returned v) u = true ∧ True) → FrameEnd s (.returned v) u (Jvm.fieldLocs frame_1_writes args s ++ Jvm.arrayLocs frame_1_arrays args s ++ Jvm.staticLocs frame_1_statics s) 16 128 → Post tb e args s (.returned v) u) :
    ArmFor flags0 classFile x code maxLocals ret World_1 tables_1 room_1 Calls_1 rest_1 Pre_1 Post := by
  intro l hfl _ _ p e ha hc hk s m args below hf hA hF happ hP
  obtain ⟨hcalls, hrest, hpre⟩ := hP
  obtain ⟨-, -, -, hnamed, -, -, -, hat⟩ := (Spec.applies_iff hf).mp happ
  obtain ⟨hg, hn⟩ := and_e (Cond.before_iff.mp (show (Jvm.Cond.and given_1 narrow_1).before args s = true from hpre))
  obtain ⟨hcount, g0⟩ := and_e hg
  obtain ⟨a0, g1⟩ := and_e g0
  obtain ⟨a1, g2⟩ := and_e g1
  obtain ⟨a2, g3⟩ := and_e g2
  obtain ⟨a3, g4⟩ := and_e g3
  have a4 := g4
  obtain ⟨w0, w1, w2, w3, w4, rfl⟩ : ∃ w0 w1 w2 w3 w4 : Value, args = #[w0, w1, w2, w3, w4] := by
    have hs : args.size = 5 := by simpa [Cond.value, given_1] using hcount
    obtain ⟨L⟩ := args
    match L, hs with
    | [w0, w1, w2, w3, w4], _ => exact ⟨w0, w1, w2, w3, w4, rfl⟩
  have hw := fun d (hd : d ∈ tables_1) => atoms_spec (ws := Jvm.Cond.code x code maxLocals ret :: tables_1) hat d (List.mem_cons_of_mem _ hd)
  obtain ⟨i0, ei0⟩ := is_v a0
  obtain rfl : w0 = (.int i0) := Option.some.inj ei0
  obtain ⟨i1, ei1⟩ := is_v a1
  obtain rfl : w1 = (.int i1) := Option.some.inj ei1
  obtain ⟨i2, ei2⟩ := is_v a2
  obtain rfl : w2 = (.int i2) := Option.some.inj ei2
  obtain ⟨i3, ei3⟩ := is_v a3
  obtain rfl : w3 = (.int i3) := Option.some.inj ei3
  obtain ⟨i4, ei4⟩ := isL_v a4
  obtain rfl : w4 = (.long i4) := Option.some.inj ei4
  obtain ⟨n, o, h1, h2, h3, _, L, rfl, ⟨rfl, N⟩, hq⟩ := rm0 l s _ hw i0 i1 i2 i3 i4 s.heap s.heap.size (Nat.le_refl _)  p e ha hc hk s m _ below hf ((Spec.applies_iff_loose hf).mp happ).1 ⟨rfl, State.Warmed39.refl s, rfl⟩ trivial
  refine ⟨n, _, h1, h2, h3, hpost _ _ _ _ _ _ ⟨Cond.after_iff.mpr rfl, Cond.after_iff.mpr (eq_i res_at (Term.int_eval (1)) rfl), trivial⟩ ⟨hq.1, hq.2.1, (hq.2.2.sift fun y hy => Or.inr (N y hy)).mono (by decide) (by decide)⟩⟩
theorem main_1_1 : Claimed_1_1 := comes_1 fun _ _ _ _ _ _ h hF => ⟨h.1, hF⟩
theorem main_1_2 : Claimed_1_2 := comes_1 fun _ _ _ _ _ _ h hF => ⟨h.2.1, hF⟩
end Jvm.Pilot.@@N@@
namespace Jvm.Pilot.@@N@@
open Jvm Jvm.ClassFile Sem Op Lib Jvm.Free Jvm.Stand Jvm.Pilot.@@N@@.Jvm.D
/-! MADE BY PROGRAM (witnessworld.py) out of the Statement's table words and the real class files: 16 classes; the members and pool entries that the words name. The judged class is class 1, her method 1. -/
namespace start1
open Jvm.ClassFile
def u (s : String) : CpInfo := .utf8 (stringToUtf16 s)
/-- a pool by its gaps: so many unusable entries, then the entry; so many at the end -/
def gap : Nat → List CpInfo → List CpInfo
  | 0, r => r
  | n + 1, r => .unusable :: gap n r
def poolList (es : List (Nat × CpInfo)) (last : Nat) : List CpInfo := es.foldr (fun e r => gap e.1 (e.2 :: r)) (gap last [])
def pool (es : List (Nat × CpInfo)) (last : Nat) : Array CpInfo := ⟨poolList es last⟩
def fileOf (pool : Array CpInfo) (this : Nat) (attrs : Array Attribute := #[]) (ms : Array MethodInfo := #[]) (fl : Nat := 33) (sup : Nat := 0) (ifs : Array Nat := #[]) (fds : Array FieldInfo := #[]) : ClassFile where
  minorVersion := 0
  majorVersion := 65
  constantPool := pool
  accessFlags := fl
  thisClass := this
  superClass := sup
  interfaces := ifs
  fields := fds
  methods := ms
  attributes := attrs
def plain (name : String) (sup : Option ClassId) : Class where
  name := name
  kind := .ordinary
  loader := none
  accessFlags := 33
  super := sup
  interfaces := #[]
  cf := none
  fields := #[]
  methods := #[]
  instanceTypes := #[]
  staticTypes := #[]
  resolved := #[]
  callSites := []
  init := .initialized
  statics := none
  mirror := none

def pool0 : Array CpInfo := pool [(5, u "<init>"), (0, u "()V"), (1, .class_ 10), (1, u "java/lang/Object")] 113

def k0m0 : Method := { name := "<init>", desc := "()V", sig := { parameters := [], returnType := none }, accessFlags := 1, code := none }
/-- java/lang/Object -/
def k0 : Class := { plain "java/lang/Object" none with
  accessFlags := 33
  interfaces := #[]
  cf := some (fileOf pool0 8 #[] #[{ accessFlags := 1, nameIndex := 5, descriptorIndex := 6, attributes := #[] }] 33 0 #[] #[])
  fields := #[]
  methods := #[k0m0]
  instanceTypes := #[]
  staticTypes := #[]
  resolved := Array.replicate 124 none
  statics := none }

def pool1 : Array CpInfo := pool [(2, .class_ 4), (1, u "java/lang/Object"), (0, u "<init>"), (0, u "()V"), (0, .integer 2147483647), (0, .integer 63488), (0, .integer 55296), (0, .integer 57343), (0, .integer 65536), (0, .integer 1048576), (0, .methodref 14 15), (0, .class_ 16), (0, .nameAndType 17 18), (0, u "com/example/amphion/amphion/Utf8Reader"), (0, u "codePoint"), (0, u "([BIIZ)I"), (0, .class_ 20), (0, u "com/example/amphion/amphion/Utf8ReaderCodePointPinLaw"), (2, u "law"), (0, u "(IIIIJ)Z")] 8

def k1m0 : Method := { name := "<init>", desc := "()V", sig := { parameters := [], returnType := none }, accessFlags := 1, code := none }
def k1c1 : Code := { maxStack := 5, maxLocals := 12, code := code, exceptionTable := #[], attributes := #[] }
def k1m1 : Method := { name := "law", desc := "(IIIIJ)Z", sig := { parameters := [.int, .int, .int, .int, .long], returnType := some .boolean }, accessFlags := 9, code := some k1c1 }
/-- com/example/amphion/amphion/Utf8ReaderCodePointPinLaw -/
def k1 : Class := { plain "com/example/amphion/amphion/Utf8ReaderCodePointPinLaw" (some 0) with
  accessFlags := 49
  interfaces := #[]
  cf := some (fileOf pool1 19 #[] #[{ accessFlags := 1, nameIndex := 5, descriptorIndex := 6, attributes := #[] }, { accessFlags := 9, nameIndex := 23, descriptorIndex := 24, attributes := #[] }] 49 2 #[] #[])
  fields := #[]
  methods := #[k1m0, k1m1]
  instanceTypes := #[]
  staticTypes := #[]
  resolved := Array.replicate 33 none
  statics := none }

def pool2 : Array CpInfo := pool [(1, .class_ 2), (0, u "java/lang/Readable"), (0, .class_ 4), (0, u "java/lang/Object")] 7

/-- java/lang/Readable -/
def k2 : Class := { plain "java/lang/Readable" (some 0) with
  accessFlags := 1537
  interfaces := #[]
  cf := some (fileOf pool2 1 #[] #[] 1537 3 #[] #[])
  fields := #[]
  methods := #[]
  instanceTypes := #[]
  staticTypes := #[]
  resolved := Array.replicate 12 none
  statics := none }

def pool3 : Array CpInfo := pool [(1, .class_ 2), (0, u "java/lang/AutoCloseable"), (0, .class_ 4), (0, u "java/lang/Object")] 7

/-- java/lang/AutoCloseable -/
def k3 : Class := { plain "java/lang/AutoCloseable" (some 0) with
  accessFlags := 1537
  interfaces := #[]
  cf := some (fileOf pool3 1 #[] #[] 1537 3 #[] #[])
  fields := #[]
  methods := #[]
  instanceTypes := #[]
  staticTypes := #[]
  resolved := Array.replicate 12 none
  statics := none }

def pool4 : Array CpInfo := pool [(1, .class_ 2), (0, u "java/io/Closeable"), (0, .class_ 4), (0, u "java/lang/Object"), (0, .class_ 6), (0, u "java/lang/AutoCloseable")] 7

/-- java/io/Closeable -/
def k4 : Class := { plain "java/io/Closeable" (some 0) with
  accessFlags := 1537
  interfaces := #[3]
  cf := some (fileOf pool4 1 #[] #[] 1537 3 #[5] #[])
  fields := #[]
  methods := #[]
  instanceTypes := #[]
  staticTypes := #[]
  resolved := Array.replicate 14 none
  statics := none }

def pool5 : Array CpInfo := pool [(1, .class_ 2), (0, u "java/io/Reader$1"), (2, u "<init>"), (0, u "()V"), (1, .class_ 9), (0, u "java/lang/Object"), (1, .class_ 13), (1, u "java/io/Reader"), (0, u "skipBuffer"), (0, u "[C"), (2, u "lock"), (0, u "Ljava/lang/Object;"), (117, .class_ 138), (0, u "java/lang/Readable"), (0, .class_ 140), (0, u "java/io/Closeable"), (0, u "TRANSFER_BUFFER_SIZE"), (0, u "I"), (2, u "maxSkipBufferSize")] 59

def k5m0 : Method := { name := "<init>", desc := "()V", sig := { parameters := [], returnType := none }, accessFlags := 4, code := none }
/-- java/io/Reader -/
def k5 : Class := { plain "java/io/Reader" (some 0) with
  accessFlags := 1057
  interfaces := #[2, 4]
  cf := some (fileOf pool5 11 #[.nestMembers #[1]] #[{ accessFlags := 4, nameIndex := 5, descriptorIndex := 6, attributes := #[] }] 1057 8 #[137, 139] #[{ accessFlags := 26, nameIndex := 141, descriptorIndex := 142, attributes := #[] }, { accessFlags := 4, nameIndex := 18, descriptorIndex := 19, attributes := #[] }, { accessFlags := 26, nameIndex := 145, descriptorIndex := 142, attributes := #[] }, { accessFlags := 2, nameIndex := 14, descriptorIndex := 15, attributes := #[] }])
  fields := #[{ name := "TRANSFER_BUFFER_SIZE", type := .int, accessFlags := 26, slot := 0, constantValue := 0 }, { name := "lock", type := (.object "java/lang/Object"), accessFlags := 4, slot := 0, constantValue := 0 }, { name := "maxSkipBufferSize", type := .int, accessFlags := 26, slot := 1, constantValue := 0 }, { name := "skipBuffer", type := (.array .char), accessFlags := 2, slot := 1, constantValue := 0 }]
  methods := #[k5m0]
  instanceTypes := #[(.object "java/lang/Object"), (.array .char)]
  staticTypes := #[.int, .int]
  resolved := Array.replicate 205 none
  statics := none }

def pool6 : Array CpInfo := pool [(2, .class_ 4), (1, u "java/io/Reader"), (2, .class_ 8), (0, u "com/example/amphion/amphion/Utf8Reader"), (2, u "bytes"), (0, u "[B"), (2, u "pendingLow"), (0, u "I"), (1, u "input"), (10, u "Ljava/io/InputStream;"), (14, u "position"), (2, u "limit"), (20, u "codePoint"), (0, u "([BIIZ)I"), (0, .class_ 71), (0, u "java/lang/Character"), (0, .integer 65536), (7, .methodref 7 81), (0, .nameAndType 82 83), (0, u "continuation"), (0, u "(B)I"), (0, .methodref 70 85), (0, .nameAndType 86 87), (0, u "isSurrogate"), (0, u "(C)Z"), (0, .integer 1114111), (10, u "INITIAL_LENGTH"), (2, u "BUFFER_LENGTH"), (1, u "MAX_SEQUENCE"), (1, u "NONE")] 11

def k6c0 : Code := { maxStack := 4, maxLocals := 6, code := prog_7_method_6_code, exceptionTable := #[], attributes := #[] }
def k6m0 : Method := { name := "codePoint", desc := "([BIIZ)I", sig := { parameters := [(.array .byte), .int, .int, .boolean], returnType := some .int }, accessFlags := 8, code := some k6c0 }
def k6c1 : Code := { maxStack := 3, maxLocals := 1, code := prog_7_method_7_code, exceptionTable := #[], attributes := #[] }
def k6m1 : Method := { name := "continuation", desc := "(B)I", sig := { parameters := [.byte], returnType := some .int }, accessFlags := 10, code := some k6c1 }
/-- com/example/amphion/amphion/Utf8Reader -/
def k6 : Class := { plain "com/example/amphion/amphion/Utf8Reader" (some 5) with
  accessFlags := 48
  interfaces := #[]
  cf := some (fileOf pool6 7 #[] #[{ accessFlags := 8, nameIndex := 68, descriptorIndex := 69, attributes := #[] }, { accessFlags := 10, nameIndex := 82, descriptorIndex := 83, attributes := #[] }] 48 2 #[] #[{ accessFlags := 26, nameIndex := 99, descriptorIndex := 16, attributes := #[] }, { accessFlags := 26, nameIndex := 102, descriptorIndex := 16, attributes := #[] }, { accessFlags := 26, nameIndex := 104, descriptorIndex := 16, attributes := #[] }, { accessFlags := 26, nameIndex := 106, descriptorIndex := 16, attributes := #[] }, { accessFlags := 18, nameIndex := 18, descriptorIndex := 29, attributes := #[] }, { accessFlags := 2, nameIndex := 11, descriptorIndex := 12, attributes := #[] }, { accessFlags := 2, nameIndex := 44, descriptorIndex := 16, attributes := #[] }, { accessFlags := 2, nameIndex := 47, descriptorIndex := 16, attributes := #[] }, { accessFlags := 2, nameIndex := 15, descriptorIndex := 16, attributes := #[] }])
  fields := #[{ name := "INITIAL_LENGTH", type := .int, accessFlags := 26, slot := 0, constantValue := 0 }, { name := "BUFFER_LENGTH", type := .int, accessFlags := 26, slot := 1, constantValue := 0 }, { name := "MAX_SEQUENCE", type := .int, accessFlags := 26, slot := 2, constantValue := 0 }, { name := "NONE", type := .int, accessFlags := 26, slot := 3, constantValue := 0 }, { name := "input", type := (.object "java/io/InputStream"), accessFlags := 18, slot := 2, constantValue := 0 }, { name := "bytes", type := (.array .byte), accessFlags := 2, slot := 3, constantValue := 0 }, { name := "position", type := .int, accessFlags := 2, slot := 4, constantValue := 0 }, { name := "limit", type := .int, accessFlags := 2, slot := 5, constantValue := 0 }, { name := "pendingLow", type := .int, accessFlags := 2, slot := 6, constantValue := 0 }]
  methods := #[k6m0, k6m1]
  instanceTypes := #[(.object "java/lang/Object"), (.array .char), (.object "java/io/InputStream"), (.array .byte), .int, .int, .int]
  staticTypes := #[.int, .int, .int, .int]
  resolved := Array.replicate 118 none
  statics := none }

def pool7 : Array CpInfo := pool [(1, .class_ 2), (0, u "java/io/Serializable"), (0, .class_ 4), (0, u "java/lang/Object")] 2

/-- java/io/Serializable -/
def k7 : Class := { plain "java/io/Serializable" (some 0) with
  accessFlags := 1537
  interfaces := #[]
  cf := some (fileOf pool7 1 #[] #[] 1537 3 #[] #[])
  fields := #[]
  methods := #[]
  instanceTypes := #[]
  staticTypes := #[]
  resolved := Array.replicate 7 none
  statics := none }

def pool8 : Array CpInfo := pool [(1, .class_ 2), (0, u "java/lang/Comparable"), (0, .class_ 4), (0, u "java/lang/Object")] 7

/-- java/lang/Comparable -/
def k8 : Class := { plain "java/lang/Comparable" (some 0) with
  accessFlags := 1537
  interfaces := #[]
  cf := some (fileOf pool8 1 #[] #[] 1537 3 #[] #[])
  fields := #[]
  methods := #[]
  instanceTypes := #[]
  staticTypes := #[]
  resolved := Array.replicate 12 none
  statics := none }

def pool9 : Array CpInfo := pool [(1, .class_ 2), (0, u "java/lang/constant/Constable"), (0, .class_ 4), (0, u "java/lang/Object")] 6

/-- java/lang/constant/Constable -/
def k9 : Class := { plain "java/lang/constant/Constable" (some 0) with
  accessFlags := 1537
  interfaces := #[]
  cf := some (fileOf pool9 1 #[] #[] 1537 3 #[] #[])
  fields := #[]
  methods := #[]
  instanceTypes := #[]
  staticTypes := #[]
  resolved := Array.replicate 11 none
  statics := none }

def pool10 : Array CpInfo := pool [(1, .class_ 2), (0, u "java/lang/Character"), (18, u "value"), (0, u "C"), (19, .class_ 44), (1, u "java/lang/Object"), (3, .class_ 50), (1, u "java/lang/Character$CharacterCache"), (24, .integer 55296), (1, .integer 57344), (3, u "(C)Z"), (202, u "$assertionsDisabled"), (0, u "Z"), (21, .class_ 309), (1, u "java/lang/Character$UnicodeBlock"), (73, u "TYPE"), (0, u "Ljava/lang/Class;"), (0, .class_ 386), (0, u "java/io/Serializable"), (0, .class_ 388), (0, u "java/lang/Comparable"), (0, .class_ 390), (0, u "java/lang/constant/Constable"), (0, u "MIN_RADIX"), (0, u "I"), (2, u "MAX_RADIX"), (1, u "MIN_VALUE"), (1, u "MAX_VALUE"), (3, u "UNASSIGNED"), (0, u "B"), (0, u "UPPERCASE_LETTER"), (1, u "LOWERCASE_LETTER"), (0, u "TITLECASE_LETTER"), (1, u "MODIFIER_LETTER"), (1, u "OTHER_LETTER"), (1, u "NON_SPACING_MARK"), (1, u "ENCLOSING_MARK"), (1, u "COMBINING_SPACING_MARK"), (1, u "DECIMAL_DIGIT_NUMBER"), (1, u "LETTER_NUMBER"), (1, u "OTHER_NUMBER"), (1, u "SPACE_SEPARATOR"), (1, u "LINE_SEPARATOR"), (1, u "PARAGRAPH_SEPARATOR"), (1, u "CONTROL"), (1, u "FORMAT"), (1, u "PRIVATE_USE"), (1, u "SURROGATE"), (1, u "DASH_PUNCTUATION"), (1, u "START_PUNCTUATION"), (1, u "END_PUNCTUATION"), (1, u "CONNECTOR_PUNCTUATION"), (1, u "OTHER_PUNCTUATION"), (1, u "MATH_SYMBOL"), (1, u "CURRENCY_SYMBOL"), (1, u "MODIFIER_SYMBOL"), (1, u "OTHER_SYMBOL"), (1, u "INITIAL_QUOTE_PUNCTUATION"), (1, u "FINAL_QUOTE_PUNCTUATION"), (1, u "ERROR"), (1, u "DIRECTIONALITY_UNDEFINED"), (0, u "DIRECTIONALITY_LEFT_TO_RIGHT"), (0, u "DIRECTIONALITY_RIGHT_TO_LEFT"), (0, u "DIRECTIONALITY_RIGHT_TO_LEFT_ARABIC"), (0, u "DIRECTIONALITY_EUROPEAN_NUMBER"), (0, u "DIRECTIONALITY_EUROPEAN_NUMBER_SEPARATOR"), (0, u "DIRECTIONALITY_EUROPEAN_NUMBER_TERMINATOR"), (0, u "DIRECTIONALITY_ARABIC_NUMBER"), (0, u "DIRECTIONALITY_COMMON_NUMBER_SEPARATOR"), (0, u "DIRECTIONALITY_NONSPACING_MARK"), (0, u "DIRECTIONALITY_BOUNDARY_NEUTRAL"), (0, u "DIRECTIONALITY_PARAGRAPH_SEPARATOR"), (0, u "DIRECTIONALITY_SEGMENT_SEPARATOR"), (0, u "DIRECTIONALITY_WHITESPACE"), (0, u "DIRECTIONALITY_OTHER_NEUTRALS"), (0, u "DIRECTIONALITY_LEFT_TO_RIGHT_EMBEDDING"), (0, u "DIRECTIONALITY_LEFT_TO_RIGHT_OVERRIDE"), (0, u "DIRECTIONALITY_RIGHT_TO_LEFT_EMBEDDING"), (0, u "DIRECTIONALITY_RIGHT_TO_LEFT_OVERRIDE"), (1, u "DIRECTIONALITY_POP_DIRECTIONAL_FORMAT"), (0, u "DIRECTIONALITY_LEFT_TO_RIGHT_ISOLATE"), (0, u "DIRECTIONALITY_RIGHT_TO_LEFT_ISOLATE"), (0, u "DIRECTIONALITY_FIRST_STRONG_ISOLATE"), (0, u "DIRECTIONALITY_POP_DIRECTIONAL_ISOLATE"), (0, u "MIN_HIGH_SURROGATE"), (0, u "MAX_HIGH_SURROGATE"), (1, u "MIN_LOW_SURROGATE"), (0, u "MAX_LOW_SURROGATE"), (1, u "MIN_SURROGATE"), (0, u "MAX_SURROGATE"), (0, u "MIN_SUPPLEMENTARY_CODE_POINT"), (0, u "MIN_CODE_POINT"), (0, u "MAX_CODE_POINT"), (1, u "serialVersionUID"), (0, u "J"), (2, u "SIZE"), (0, u "BYTES"), (24, u "isSurrogate"), (63, .class_ 596), (0, u "java/lang/Character$UnicodeScript"), (0, .class_ 598), (0, u "java/lang/Character$Subset")] 5

def k10c0 : Code := { maxStack := 2, maxLocals := 1, code := jdk_89_method_16_code, exceptionTable := #[], attributes := #[] }
def k10m0 : Method := { name := "isSurrogate", desc := "(C)Z", sig := { parameters := [.char], returnType := some .boolean }, accessFlags := 9, code := some k10c0 }
/-- java/lang/Character -/
def k10 : Class := { plain "java/lang/Character" (some 0) with
  accessFlags := 49
  interfaces := #[7, 8, 9]
  cf := some (fileOf pool10 1 #[.nestMembers #[48, 595, 307, 597]] #[{ accessFlags := 9, nameIndex := 531, descriptorIndex := 81, attributes := #[] }] 49 42 #[385, 387, 389] #[{ accessFlags := 25, nameIndex := 391, descriptorIndex := 392, attributes := #[] }, { accessFlags := 25, nameIndex := 395, descriptorIndex := 392, attributes := #[] }, { accessFlags := 25, nameIndex := 397, descriptorIndex := 22, attributes := #[] }, { accessFlags := 25, nameIndex := 399, descriptorIndex := 22, attributes := #[] }, { accessFlags := 25, nameIndex := 383, descriptorIndex := 384, attributes := #[] }, { accessFlags := 25, nameIndex := 403, descriptorIndex := 404, attributes := #[] }, { accessFlags := 25, nameIndex := 405, descriptorIndex := 404, attributes := #[] }, { accessFlags := 25, nameIndex := 407, descriptorIndex := 404, attributes := #[] }, { accessFlags := 25, nameIndex := 408, descriptorIndex := 404, attributes := #[] }, { accessFlags := 25, nameIndex := 410, descriptorIndex := 404, attributes := #[] }, { accessFlags := 25, nameIndex := 412, descriptorIndex := 404, attributes := #[] }, { accessFlags := 25, nameIndex := 414, descriptorIndex := 404, attributes := #[] }, { accessFlags := 25, nameIndex := 416, descriptorIndex := 404, attributes := #[] }, { accessFlags := 25, nameIndex := 418, descriptorIndex := 404, attributes := #[] }, { accessFlags := 25, nameIndex := 420, descriptorIndex := 404, attributes := #[] }, { accessFlags := 25, nameIndex := 422, descriptorIndex := 404, attributes := #[] }, { accessFlags := 25, nameIndex := 424, descriptorIndex := 404, attributes := #[] }, { accessFlags := 25, nameIndex := 426, descriptorIndex := 404, attributes := #[] }, { accessFlags := 25, nameIndex := 428, descriptorIndex := 404, attributes := #[] }, { accessFlags := 25, nameIndex := 430, descriptorIndex := 404, attributes := #[] }, { accessFlags := 25, nameIndex := 432, descriptorIndex := 404, attributes := #[] }, { accessFlags := 25, nameIndex := 434, descriptorIndex := 404, attributes := #[] }, { accessFlags := 25, nameIndex := 436, descriptorIndex := 404, attributes := #[] }, { accessFlags := 25, nameIndex := 438, descriptorIndex := 404, attributes := #[] }, { accessFlags := 25, nameIndex := 440, descriptorIndex := 404, attributes := #[] }, { accessFlags := 25, nameIndex := 442, descriptorIndex := 404, attributes := #[] }, { accessFlags := 25, nameIndex := 444, descriptorIndex := 404, attributes := #[] }, { accessFlags := 25, nameIndex := 446, descriptorIndex := 404, attributes := #[] }, { accessFlags := 25, nameIndex := 448, descriptorIndex := 404, attributes := #[] }, { accessFlags := 25, nameIndex := 450, descriptorIndex := 404, attributes := #[] }, { accessFlags := 25, nameIndex := 452, descriptorIndex := 404, attributes := #[] }, { accessFlags := 25, nameIndex := 454, descriptorIndex := 404, attributes := #[] }, { accessFlags := 25, nameIndex := 456, descriptorIndex := 404, attributes := #[] }, { accessFlags := 25, nameIndex := 458, descriptorIndex := 404, attributes := #[] }, { accessFlags := 25, nameIndex := 460, descriptorIndex := 404, attributes := #[] }, { accessFlags := 24, nameIndex := 462, descriptorIndex := 392, attributes := #[] }, { accessFlags := 25, nameIndex := 464, descriptorIndex := 404, attributes := #[] }, { accessFlags := 25, nameIndex := 465, descriptorIndex := 404, attributes := #[] }, { accessFlags := 25, nameIndex := 466, descriptorIndex := 404, attributes := #[] }, { accessFlags := 25, nameIndex := 467, descriptorIndex := 404, attributes := #[] }, { accessFlags := 25, nameIndex := 468, descriptorIndex := 404, attributes := #[] }, { accessFlags := 25, nameIndex := 469, descriptorIndex := 404, attributes := #[] }, { accessFlags := 25, nameIndex := 470, descriptorIndex := 404, attributes := #[] }, { accessFlags := 25, nameIndex := 471, descriptorIndex := 404, attributes := #[] }, { accessFlags := 25, nameIndex := 472, descriptorIndex := 404, attributes := #[] }, { accessFlags := 25, nameIndex := 473, descriptorIndex := 404, attributes := #[] }, { accessFlags := 25, nameIndex := 474, descriptorIndex := 404, attributes := #[] }, { accessFlags := 25, nameIndex := 475, descriptorIndex := 404, attributes := #[] }, { accessFlags := 25, nameIndex := 476, descriptorIndex := 404, attributes := #[] }, { accessFlags := 25, nameIndex := 477, descriptorIndex := 404, attributes := #[] }, { accessFlags := 25, nameIndex := 478, descriptorIndex := 404, attributes := #[] }, { accessFlags := 25, nameIndex := 479, descriptorIndex := 404, attributes := #[] }, { accessFlags := 25, nameIndex := 480, descriptorIndex := 404, attributes := #[] }, { accessFlags := 25, nameIndex := 481, descriptorIndex := 404, attributes := #[] }, { accessFlags := 25, nameIndex := 482, descriptorIndex := 404, attributes := #[] }, { accessFlags := 25, nameIndex := 484, descriptorIndex := 404, attributes := #[] }, { accessFlags := 25, nameIndex := 485, descriptorIndex := 404, attributes := #[] }, { accessFlags := 25, nameIndex := 486, descriptorIndex := 404, attributes := #[] }, { accessFlags := 25, nameIndex := 487, descriptorIndex := 404, attributes := #[] }, { accessFlags := 25, nameIndex := 488, descriptorIndex := 404, attributes := #[] }, { accessFlags := 25, nameIndex := 489, descriptorIndex := 22, attributes := #[] }, { accessFlags := 25, nameIndex := 490, descriptorIndex := 22, attributes := #[] }, { accessFlags := 25, nameIndex := 492, descriptorIndex := 22, attributes := #[] }, { accessFlags := 25, nameIndex := 493, descriptorIndex := 22, attributes := #[] }, { accessFlags := 25, nameIndex := 495, descriptorIndex := 22, attributes := #[] }, { accessFlags := 25, nameIndex := 496, descriptorIndex := 22, attributes := #[] }, { accessFlags := 25, nameIndex := 497, descriptorIndex := 392, attributes := #[] }, { accessFlags := 25, nameIndex := 498, descriptorIndex := 392, attributes := #[] }, { accessFlags := 25, nameIndex := 499, descriptorIndex := 392, attributes := #[] }, { accessFlags := 18, nameIndex := 21, descriptorIndex := 22, attributes := #[] }, { accessFlags := 26, nameIndex := 501, descriptorIndex := 502, attributes := #[] }, { accessFlags := 25, nameIndex := 505, descriptorIndex := 392, attributes := #[] }, { accessFlags := 25, nameIndex := 506, descriptorIndex := 392, attributes := #[] }, { accessFlags := 4120, nameIndex := 284, descriptorIndex := 285, attributes := #[] }])
  fields := #[{ name := "MIN_RADIX", type := .int, accessFlags := 25, slot := 0, constantValue := 0 }, { name := "MAX_RADIX", type := .int, accessFlags := 25, slot := 1, constantValue := 0 }, { name := "MIN_VALUE", type := .char, accessFlags := 25, slot := 2, constantValue := 0 }, { name := "MAX_VALUE", type := .char, accessFlags := 25, slot := 3, constantValue := 0 }, { name := "TYPE", type := (.object "java/lang/Class"), accessFlags := 25, slot := 4, constantValue := 0 }, { name := "UNASSIGNED", type := .byte, accessFlags := 25, slot := 5, constantValue := 0 }, { name := "UPPERCASE_LETTER", type := .byte, accessFlags := 25, slot := 6, constantValue := 0 }, { name := "LOWERCASE_LETTER", type := .byte, accessFlags := 25, slot := 7, constantValue := 0 }, { name := "TITLECASE_LETTER", type := .byte, accessFlags := 25, slot := 8, constantValue := 0 }, { name := "MODIFIER_LETTER", type := .byte, accessFlags := 25, slot := 9, constantValue := 0 }, { name := "OTHER_LETTER", type := .byte, accessFlags := 25, slot := 10, constantValue := 0 }, { name := "NON_SPACING_MARK", type := .byte, accessFlags := 25, slot := 11, constantValue := 0 }, { name := "ENCLOSING_MARK", type := .byte, accessFlags := 25, slot := 12, constantValue := 0 }, { name := "COMBINING_SPACING_MARK", type := .byte, accessFlags := 25, slot := 13, constantValue := 0 }, { name := "DECIMAL_DIGIT_NUMBER", type := .byte, accessFlags := 25, slot := 14, constantValue := 0 }, { name := "LETTER_NUMBER", type := .byte, accessFlags := 25, slot := 15, constantValue := 0 }, { name := "OTHER_NUMBER", type := .byte, accessFlags := 25, slot := 16, constantValue := 0 }, { name := "SPACE_SEPARATOR", type := .byte, accessFlags := 25, slot := 17, constantValue := 0 }, { name := "LINE_SEPARATOR", type := .byte, accessFlags := 25, slot := 18, constantValue := 0 }, { name := "PARAGRAPH_SEPARATOR", type := .byte, accessFlags := 25, slot := 19, constantValue := 0 }, { name := "CONTROL", type := .byte, accessFlags := 25, slot := 20, constantValue := 0 }, { name := "FORMAT", type := .byte, accessFlags := 25, slot := 21, constantValue := 0 }, { name := "PRIVATE_USE", type := .byte, accessFlags := 25, slot := 22, constantValue := 0 }, { name := "SURROGATE", type := .byte, accessFlags := 25, slot := 23, constantValue := 0 }, { name := "DASH_PUNCTUATION", type := .byte, accessFlags := 25, slot := 24, constantValue := 0 }, { name := "START_PUNCTUATION", type := .byte, accessFlags := 25, slot := 25, constantValue := 0 }, { name := "END_PUNCTUATION", type := .byte, accessFlags := 25, slot := 26, constantValue := 0 }, { name := "CONNECTOR_PUNCTUATION", type := .byte, accessFlags := 25, slot := 27, constantValue := 0 }, { name := "OTHER_PUNCTUATION", type := .byte, accessFlags := 25, slot := 28, constantValue := 0 }, { name := "MATH_SYMBOL", type := .byte, accessFlags := 25, slot := 29, constantValue := 0 }, { name := "CURRENCY_SYMBOL", type := .byte, accessFlags := 25, slot := 30, constantValue := 0 }, { name := "MODIFIER_SYMBOL", type := .byte, accessFlags := 25, slot := 31, constantValue := 0 }, { name := "OTHER_SYMBOL", type := .byte, accessFlags := 25, slot := 32, constantValue := 0 }, { name := "INITIAL_QUOTE_PUNCTUATION", type := .byte, accessFlags := 25, slot := 33, constantValue := 0 }, { name := "FINAL_QUOTE_PUNCTUATION", type := .byte, accessFlags := 25, slot := 34, constantValue := 0 }, { name := "ERROR", type := .int, accessFlags := 24, slot := 35, constantValue := 0 }, { name := "DIRECTIONALITY_UNDEFINED", type := .byte, accessFlags := 25, slot := 36, constantValue := 0 }, { name := "DIRECTIONALITY_LEFT_TO_RIGHT", type := .byte, accessFlags := 25, slot := 37, constantValue := 0 }, { name := "DIRECTIONALITY_RIGHT_TO_LEFT", type := .byte, accessFlags := 25, slot := 38, constantValue := 0 }, { name := "DIRECTIONALITY_RIGHT_TO_LEFT_ARABIC", type := .byte, accessFlags := 25, slot := 39, constantValue := 0 }, { name := "DIRECTIONALITY_EUROPEAN_NUMBER", type := .byte, accessFlags := 25, slot := 40, constantValue := 0 }, { name := "DIRECTIONALITY_EUROPEAN_NUMBER_SEPARATOR", type := .byte, accessFlags := 25, slot := 41, constantValue := 0 }, { name := "DIRECTIONALITY_EUROPEAN_NUMBER_TERMINATOR", type := .byte, accessFlags := 25, slot := 42, constantValue := 0 }, { name := "DIRECTIONALITY_ARABIC_NUMBER", type := .byte, accessFlags := 25, slot := 43, constantValue := 0 }, { name := "DIRECTIONALITY_COMMON_NUMBER_SEPARATOR", type := .byte, accessFlags := 25, slot := 44, constantValue := 0 }, { name := "DIRECTIONALITY_NONSPACING_MARK", type := .byte, accessFlags := 25, slot := 45, constantValue := 0 }, { name := "DIRECTIONALITY_BOUNDARY_NEUTRAL", type := .byte, accessFlags := 25, slot := 46, constantValue := 0 }, { name := "DIRECTIONALITY_PARAGRAPH_SEPARATOR", type := .byte, accessFlags := 25, slot := 47, constantValue := 0 }, { name := "DIRECTIONALITY_SEGMENT_SEPARATOR", type := .byte, accessFlags := 25, slot := 48, constantValue := 0 }, { name := "DIRECTIONALITY_WHITESPACE", type := .byte, accessFlags := 25, slot := 49, constantValue := 0 }, { name := "DIRECTIONALITY_OTHER_NEUTRALS", type := .byte, accessFlags := 25, slot := 50, constantValue := 0 }, { name := "DIRECTIONALITY_LEFT_TO_RIGHT_EMBEDDING", type := .byte, accessFlags := 25, slot := 51, constantValue := 0 }, { name := "DIRECTIONALITY_LEFT_TO_RIGHT_OVERRIDE", type := .byte, accessFlags := 25, slot := 52, constantValue := 0 }, { name := "DIRECTIONALITY_RIGHT_TO_LEFT_EMBEDDING", type := .byte, accessFlags := 25, slot := 53, constantValue := 0 }, { name := "DIRECTIONALITY_RIGHT_TO_LEFT_OVERRIDE", type := .byte, accessFlags := 25, slot := 54, constantValue := 0 }, { name := "DIRECTIONALITY_POP_DIRECTIONAL_FORMAT", type := .byte, accessFlags := 25, slot := 55, constantValue := 0 }, { name := "DIRECTIONALITY_LEFT_TO_RIGHT_ISOLATE", type := .byte, accessFlags := 25, slot := 56, constantValue := 0 }, { name := "DIRECTIONALITY_RIGHT_TO_LEFT_ISOLATE", type := .byte, accessFlags := 25, slot := 57, constantValue := 0 }, { name := "DIRECTIONALITY_FIRST_STRONG_ISOLATE", type := .byte, accessFlags := 25, slot := 58, constantValue := 0 }, { name := "DIRECTIONALITY_POP_DIRECTIONAL_ISOLATE", type := .byte, accessFlags := 25, slot := 59, constantValue := 0 }, { name := "MIN_HIGH_SURROGATE", type := .char, accessFlags := 25, slot := 60, constantValue := 0 }, { name := "MAX_HIGH_SURROGATE", type := .char, accessFlags := 25, slot := 61, constantValue := 0 }, { name := "MIN_LOW_SURROGATE", type := .char, accessFlags := 25, slot := 62, constantValue := 0 }, { name := "MAX_LOW_SURROGATE", type := .char, accessFlags := 25, slot := 63, constantValue := 0 }, { name := "MIN_SURROGATE", type := .char, accessFlags := 25, slot := 64, constantValue := 0 }, { name := "MAX_SURROGATE", type := .char, accessFlags := 25, slot := 65, constantValue := 0 }, { name := "MIN_SUPPLEMENTARY_CODE_POINT", type := .int, accessFlags := 25, slot := 66, constantValue := 0 }, { name := "MIN_CODE_POINT", type := .int, accessFlags := 25, slot := 67, constantValue := 0 }, { name := "MAX_CODE_POINT", type := .int, accessFlags := 25, slot := 68, constantValue := 0 }, { name := "value", type := .char, accessFlags := 18, slot := 0, constantValue := 0 }, { name := "serialVersionUID", type := .long, accessFlags := 26, slot := 69, constantValue := 0 }, { name := "SIZE", type := .int, accessFlags := 25, slot := 70, constantValue := 0 }, { name := "BYTES", type := .int, accessFlags := 25, slot := 71, constantValue := 0 }, { name := "$assertionsDisabled", type := .boolean, accessFlags := 4120, slot := 72, constantValue := 0 }]
  methods := #[k10m0]
  instanceTypes := #[.char]
  staticTypes := #[.int, .int, .char, .char, (.object "java/lang/Class"), .byte, .byte, .byte, .byte, .byte, .byte, .byte, .byte, .byte, .byte, .byte, .byte, .byte, .byte, .byte, .byte, .byte, .byte, .byte, .byte, .byte, .byte, .byte, .byte, .byte, .byte, .byte, .byte, .byte, .byte, .int, .byte, .byte, .byte, .byte, .byte, .byte, .byte, .byte, .byte, .byte, .byte, .byte, .byte, .byte, .byte, .byte, .byte, .byte, .byte, .byte, .byte, .byte, .byte, .byte, .char, .char, .char, .char, .char, .char, .int, .int, .int, .long, .int, .int, .boolean]
  resolved := Array.replicate 604 none
  statics := none }

def pool11 : Array CpInfo := pool [(1, u "java/lang/Cloneable"), (0, .class_ 1), (0, u "java/lang/Object"), (0, .class_ 3)] 3

/-- java/lang/Cloneable -/
def k11 : Class := { plain "java/lang/Cloneable" (some 0) with
  accessFlags := 1537
  interfaces := #[]
  cf := some (fileOf pool11 2 #[] #[] 1537 4 #[] #[])
  fields := #[]
  methods := #[]
  instanceTypes := #[]
  staticTypes := #[]
  resolved := Array.replicate 8 none
  statics := none }

/-- the primitive byte -/
def k12 : Class := { plain "byte" none with kind := .primitive 'B', accessFlags := 0x411 }
/-- [B -/
def k13 : Class := { plain "[B" (some 0) with kind := .array 12 .byte, interfaces := #[11, 7], accessFlags := 1041 }

/-- the primitive int -/
def k14 : Class := { plain "int" none with kind := .primitive 'I', accessFlags := 0x411 }
/-- [I -/
def k15 : Class := { plain "[I" (some 0) with kind := .array 14 .int, interfaces := #[11, 7], accessFlags := 1041 }

def heap : Heap := #[]
def classes : Array Class := #[k0, k1, k2, k3, k4, k5, k6, k7, k8, k9, k10, k11, k12, k13, k14, k15]
def interned : List (Array UInt16 × Addr) := []
def slotsUsed : Nat := 0
def theMethod : MethodId := ⟨1, 1⟩
def args0 : Array Value := #[.int 5, .int 1, .int 3, .int 4, .long 5]
def aboutOver (below : List Frame) : State where
  vm := { classes := classes, interned := interned.toArray }
  heap := heap
  slotsUsed := slotsUsed
  threads := #[{ frames := .invoking theMethod args0 :: below }]
def below0 : List Frame := [.native { method := ⟨0, 0⟩, args := #[] }]
def about1 : State := aboutOver below0
def p0 : Program := .bare "" "" ""
def e0 : Env := launch0.env 0 0 0
theorem w_frames : about1.frames = Frame.invoking theMethod args0 :: below0 := rfl
set_option maxRecDepth 65536 in
theorem w_args : argsFit about1.vm theMethod args0 = true := by decide +kernel
set_option maxRecDepth 65536 in
theorem w_heap : heapFits about1 = true := by decide +kernel
set_option maxRecDepth 65536 in
theorem w_runnable : about1.curStatus? = some .runnable := by decide +kernel
set_option maxRecDepth 65536 in
theorem w_alone : about1.alone = true := by decide +kernel
set_option maxRecDepth 65536 in
theorem w_named : about1.methodNamed? x = some theMethod := by decide +kernel
set_option maxRecDepth 65536 in
theorem w_hears : about1.hears theMethod below0 = true := by decide +kernel
set_option maxRecDepth 65536 in
theorem w_ripe : about1.ripe theMethod args0 below0 = true := by decide +kernel
theorem w_running : about1.status = .running := rfl
set_option maxRecDepth 65536 in
theorem w_room : about1.hasRoom e0.platform room_1 = true :=
  launch0.hasRoom_least _ room_1 (by decide +kernel) (by decide +kernel) (by decide +kernel) (by decide +kernel) (by decide +kernel) (by decide +kernel)
theorem allAtoms_all (ts : List Jvm.Cond) (a : Array Jvm.Value) (st : Jvm.State) : (allAtoms ts).before a st = ts.all (fun c => c.before a st) := by
  induction ts with
  | nil => rfl
  | cons c t ih =>
    show (Jvm.Cond.and c (allAtoms t)).before a st = _
    rw [Jvm.Cond.before_and, ih, List.all_cons]
def words1 : List Jvm.Cond := Jvm.Cond.code x code maxLocals ret :: tables_1
/-- a 'code' word, met by the world's own term for the bytes: nothing is compared byte by byte -/
theorem code_word {y : MethodName} {bytes : ByteArray} {mx : Nat} {rt : Option FieldType} {a : Array Value} {s : State} {m : MethodId} {meth : Method} {c : Code} (h1 : s.methodNamed? y = some m) (h2 : s.vm.method? m = some meth) (h3 : meth.code = some c) (h4 : c.code = bytes)
    (h5 : (c.maxLocals == mx && c.exceptionTable.isEmpty && decide (c.maxStack ≤ mostOperands) && decide (meth.sig.returnType = rt) && !meth.locks && decide (parseMethodDescriptor y.desc = some meth.sig)) = true) : (Jvm.Cond.code y bytes mx rt).before a s = true := by
  simp only [Bool.and_eq_true, beq_iff_eq, Bool.not_eq_true', decide_eq_true_eq] at h5
  obtain ⟨⟨⟨⟨⟨g1, g2⟩, g3⟩, g4⟩, g5⟩, g6⟩ := h5
  simp [Cond.before, Cond.holds, Cond.value, h1, h2, h3, h4, g1, g2, g3, g4, g5, g6]
def isCode : Jvm.Cond → Bool
  | .code _ _ _ _ => true
  | _ => false
theorem all_split {L : List Jvm.Cond} {P : Jvm.Cond → Bool} (h1 : L.all (fun c => isCode c || P c) = true) (h2 : ∀ c ∈ L.filter isCode, P c = true) : L.all P = true := by
  refine List.all_eq_true.mpr fun c hc => ?_
  have h := List.all_eq_true.mp h1 c hc
  rcases Bool.eq_false_or_eq_true (isCode c) with hi | hi
  · exact h2 c (List.mem_filter.mpr ⟨hc, hi⟩)
  · simpa [hi] using h
set_option maxRecDepth 65536 in
theorem w_c0 : (Jvm.Cond.code x code maxLocals ret).before args0 about1 = true := code_word (m := ⟨1, 1⟩) (meth := k1m1) (c := k1c1) (by decide +kernel) rfl rfl rfl (by decide +kernel)
set_option maxRecDepth 65536 in
theorem w_c1 : (Jvm.Cond.code ({ cls := "com/example/amphion/amphion/Utf8Reader", name := "codePoint", desc := "([BIIZ)I" } : Jvm.MethodName) prog_7_method_6_code (6 : Nat) (Option.some Jvm.ClassFile.FieldType.int)).before args0 about1 = true := code_word (m := ⟨6, 0⟩) (meth := k6m0) (c := k6c0) (by decide +kernel) rfl rfl rfl (by decide +kernel)
set_option maxRecDepth 65536 in
theorem w_c2 : (Jvm.Cond.code ({ cls := "com/example/amphion/amphion/Utf8Reader", name := "continuation", desc := "(B)I" } : Jvm.MethodName) prog_7_method_7_code (1 : Nat) (Option.some Jvm.ClassFile.FieldType.int)).before args0 about1 = true := code_word (m := ⟨6, 1⟩) (meth := k6m1) (c := k6c1) (by decide +kernel) rfl rfl rfl (by decide +kernel)
set_option maxRecDepth 65536 in
theorem w_c3 : (Jvm.Cond.code ({ cls := "java/lang/Character", name := "isSurrogate", desc := "(C)Z" } : Jvm.MethodName) jdk_89_method_16_code (1 : Nat) (Option.some Jvm.ClassFile.FieldType.boolean)).before args0 about1 = true := code_word (m := ⟨10, 0⟩) (meth := k10m0) (c := k10c0) (by decide +kernel) rfl rfl rfl (by decide +kernel)
def codes1 : List Jvm.Cond := [Jvm.Cond.code x code maxLocals ret, Jvm.Cond.code ({ cls := "com/example/amphion/amphion/Utf8Reader", name := "codePoint", desc := "([BIIZ)I" } : Jvm.MethodName) prog_7_method_6_code (6 : Nat) (Option.some Jvm.ClassFile.FieldType.int), Jvm.Cond.code ({ cls := "com/example/amphion/amphion/Utf8Reader", name := "continuation", desc := "(B)I" } : Jvm.MethodName) prog_7_method_7_code (1 : Nat) (Option.some Jvm.ClassFile.FieldType.int), Jvm.Cond.code ({ cls := "java/lang/Character", name := "isSurrogate", desc := "(C)Z" } : Jvm.MethodName) jdk_89_method_16_code (1 : Nat) (Option.some Jvm.ClassFile.FieldType.boolean)]
set_option maxRecDepth 65536 in
theorem codes_eq : words1.filter isCode = codes1 := rfl
theorem w_codes : ∀ c ∈ words1.filter isCode, c.before args0 about1 = true := by
  rw [codes_eq]
  intro c hc
  simp only [codes1, List.mem_cons, List.not_mem_nil, or_false] at hc
  rcases hc with rfl | rfl | rfl | rfl
  · exact w_c0
  · exact w_c1
  · exact w_c2
  · exact w_c3
set_option maxRecDepth 65536 in
theorem w_t1 : words1.all (fun c => isCode c || c.before args0 about1) = true := by decide +kernel
theorem w_tables : (allAtoms (Jvm.Cond.code x code maxLocals ret :: tables_1)).before args0 about1 = true := by
  rw [allAtoms_all]
  show words1.all (fun c => c.before args0 about1) = true
  refine all_split ?_ w_codes
  rw [w_t1]
set_option maxRecDepth 65536 in
theorem w_case : (Jvm.Cond.and given_1 narrow_1).before args0 about1 = true := by decide +kernel
theorem w_applies : (headSpec (Jvm.Cond.code x code maxLocals ret :: tables_1) room_1).applies x e0.platform about1 = true :=
  (Spec.applies_iff w_frames).mpr ⟨w_running, w_runnable, w_alone, w_named, w_hears, w_ripe, w_room, w_tables⟩
theorem atStart : AtStart classFile x code maxLocals ret World_1 tables_1 room_1 Calls_1 rest_1 Pre_1 launch0 p0 e0 about1 theMethod args0 below0 :=
  ⟨lists_1, trivial, launch0.admits_env _ _ _, launch0.least_env, fairChoices_fair.cas, fairChoices_fair.clock, w_frames, w_args, w_heap, w_applies, trivial, trivial, w_case⟩
end start1
theorem witness_1 : WitnessClaimed_1 := ⟨start1.p0, start1.e0, start1.about1, start1.theMethod, start1.args0, start1.below0, start1.atStart⟩
end Jvm.Pilot.@@N@@
