import JvmDerived
import JvmDerived.Pilot.@@N@@Statement
import JvmDerived.Pilot.@@N@@Code
set_option linter.unusedVariables false
set_option linter.unusedSimpArgs false
namespace Jvm.Pilot.@@N@@
open Jvm Jvm.ClassFile Sem Op Lib Jvm.Free Jvm.Stand Jvm.LawKit Jvm.RoadKit Bundle Jvm.Pilot.@@N@@.Jvm.D
theorem own_w {Z : State} {a0 : Array Value} (hw : ∀ d ∈ tables_1, d.before a0 Z = true) (k : Nat) {d : Jvm.Cond} (h : tables_1[k]? = some d) : d.before a0 Z = true := hw _ (List.mem_of_getElem? h)
/-- the run from U ends, and Q says what it leaves -/
def own_Fin (p : Program) (e : Env) (below : List Frame) (s : State) (Q : Option Value → Heap → List Loc → Prop) (k n : Nat) (U : State) : Prop :=
  ∃ s₂ o, Steps p.tables e below U s₂ ∧ s₂.status = .running ∧ Ended s₂ below o ∧ ∃ v L, o = .returned v ∧ Q v s₂.heap L ∧ FrameEnd s o s₂ L k n
theorem own_Fin.step {p : Program} {e : Env} {below : List Frame} {s : State} {Q : Option Value → Heap → List Loc → Prop} {k n : Nat} {U U' : State} (st : ∀ t, Steps p.tables e below U' t → Steps p.tables e below U t) (h : own_Fin p e below s Q k n U') : own_Fin p e below s Q k n U := by
  obtain ⟨s₂, o, h1, h2⟩ := h
  exact ⟨s₂, o, st _ h1, h2⟩
/-- a contract: called with as' at the heap h, the body leaves what Q says -/
abbrev own_Met (l : Launch) (Z : State) (ws : List Jvm.Cond) (y : MethodName) (bytes : ByteArray) (maxL : Nat) (ret : Option FieldType) (rm : Room) (as' : Array Value) (h : Heap) (Q : Option Value → Heap → List Loc → Prop) : Prop :=
  MetFree l y (head1 (Jvm.Cond.code y bytes maxL ret :: ws) rm) (fun a U => a = as' ∧ Z.Warmed39 U.vm ∧ U.heap = h) (fun _ _ _ _ _ => True) (fun _ U o U' => ∃ v L, o = .returned v ∧ Q v U'.heap L ∧ FrameEnd U o U' L rm.cells rm.slots)
/-- what a body leaves that returns w and writes nothing -/
def own_QP (w : Option Value) (h0 : Heap) (n0 : Nat) (v : Option Value) (h : Heap) (L : List Loc) : Prop := v = w ∧ Fr n0 L ∧ h = h0
/-- the law's own end -/
def own_Q0 (n0 : Nat) (v : Option Value) (h : Heap) (L : List Loc) : Prop := v = some (.int 1) ∧ Fr n0 L
theorem own_enter {l : Launch} {Z : State} {ws : List Jvm.Cond} {y : MethodName} {bytes : ByteArray} {maxL : Nat} {ret : Option FieldType} {rm : Room} {as' : Array Value} {h : Heap} {Q : Option Value → Heap → List Loc → Prop} (hp : plainFor y = true)
    (body : ∀ (p : Program) (e : Env) (s : State) (m : MethodId) (below : List Frame) (meth : Method) (c : Code) (s₁ : State), Stand p l e rm s m as' below meth c s₁ [] 0 0 → p.tables.exec = Jvm.exec → c.code = bytes → c.maxLocals = maxL → s.vm.findClass y.cls = some m.cls → meth.sig.returnType = ret → meth.locks = false → meth.name = y.name → Z.Warmed39 s.vm → s₁.heap = h →
      own_Fin p e below s Q rm.cells rm.slots (s₁.setTop (entryFrame m as' maxL))) : own_Met l Z ws y bytes maxL ret rm as' h Q := by
  refine MetFree.of_bodySF hp hisR ?_
  intro p e s m args below meth c s₁ Bd hml0 hP hK
  obtain ⟨rfl, hZ, hh⟩ := hP
  exact body p e s m below meth c s₁ (Stand.of_body Bd) Bd.exec Bd.bytes hml0 (findClass_of_methodNamed Bd.named) Bd.returns (BodyLoose.notSynchronized Bd) (name_of_methodNamed Bd.named Bd.method).1 hZ (by rw [← hh, Bd.state]; rfl)
section Own
variable {p : Program} {l : Launch} {e : Env} {R : Room} {s : State} {m : MethodId} {args : Array Value} {below : List Frame} {meth : Method} {c : Code} {T : State} {locs : List Loc} {cells slots : Nat} {Z : State} {a0 : Array Value} {h : Heap} {Q : Option Value → Heap → List Loc → Prop} {k n : Nat}
theorem own_retI (X : Stand p l e R s m args below meth c T locs cells slots) (hx : p.tables.exec = Jvm.exec) (hlk : meth.locks = false) {pc : Nat} {Ls : Array Slot} {z : Int32} {rest : List Value} (hret : meth.sig.returnType = some .int) (hd : decode c.code pc = .ok (.ireturn, 1)) (hQ : Q (some (.int z)) T.heap locs) (hk : cells ≤ k) (hn : slots ≤ n) :
    own_Fin p e below s Q k n (T.setTop (mkF m pc Ls (.int z :: rest))) := by
  obtain ⟨fs, hr, hrun, hended, hW, hsame⟩ := X.leave (v := some (.int z)) (fun h => by rw [hret] at h; cases h) hlk
  refine ⟨_, _, ?_, hrun, hended, _, _, rfl, hQ, ⟨_, rfl⟩, hW, hsame.mono hk hn⟩
  have hm' : T.vm.method? m = some meth := X.method'
  have hnn : narrow .int (.int z) = .int z := rfl
  show Steps p.tables e below (T.setTop { method := m, pc := pc, locals := Ls, stack := _ :: rest, locked := none }) _
  jvm_step X.here [X.here.top, hx, hd, hm', hret, hnn]
  first | (intro acts; rw [hr _ acts rfl rfl rfl]) | rw [hr _ _ rfl rfl rfl]
  exact Steps.refl _
theorem own_retN (X : Stand p l e R s m args below meth c T locs cells slots) (hx : p.tables.exec = Jvm.exec) (hlk : meth.locks = false) {pc : Nat} {Ls : Array Slot} {z : Int32} {t : FieldType} {rest : List Value} (hret : meth.sig.returnType = some t) (ht : t = .boolean ∨ t = .byte ∨ t = .char ∨ t = .short) (hd : decode c.code pc = .ok (.ireturn, 1)) (hQ : Q (some (.int (nar t z))) T.heap locs) (hk : cells ≤ k) (hn : slots ≤ n) :
    own_Fin p e below s Q k n (T.setTop (mkF m pc Ls (.int z :: rest))) := by
  obtain ⟨fs, hr, hrun, hended, hW, hsame⟩ := X.leave (v := some (.int (nar t z))) (fun h => by rw [hret] at h; cases h) hlk
  exact ⟨_, _, retN X hx hret ht hd hr, hrun, hended, _, _, rfl, hQ, ⟨_, rfl⟩, hW, hsame.mono hk hn⟩
theorem own_retJ (X : Stand p l e R s m args below meth c T locs cells slots) (hx : p.tables.exec = Jvm.exec) (hlk : meth.locks = false) {pc : Nat} {Ls : Array Slot} {z : Int64} (hret : meth.sig.returnType = some .long) (hd : decode c.code pc = .ok (.lreturn, 1)) (hQ : Q (some (.long z)) T.heap locs) (hk : cells ≤ k) (hn : slots ≤ n) :
    own_Fin p e below s Q k n (T.setTop (mkF m pc Ls [.long z])) := by
  obtain ⟨fs, hr, hrun, hended, hW, hsame⟩ := X.leave (v := some (.long z)) (fun h => by rw [hret] at h; cases h) hlk
  exact ⟨_, _, X.lreturnOut hx hret hd hr, hrun, hended, _, _, rfl, hQ, ⟨_, rfl⟩, hW, hsame.mono hk hn⟩
theorem own_retR (X : Stand p l e R s m args below meth c T locs cells slots) (hx : p.tables.exec = Jvm.exec) (hlk : meth.locks = false) {pc : Nat} {Ls : Array Slot} {w : Value} {t : FieldType} (hw : w.isRef = true) (hret : meth.sig.returnType = some t) (ht : t.isReference = true) (hd : decode c.code pc = .ok (.areturn, 1)) (hQ : Q (some w) T.heap locs) (hk : cells ≤ k) (hn : slots ≤ n) :
    own_Fin p e below s Q k n (T.setTop (mkF m pc Ls [w])) := by
  obtain ⟨fs, hr, hrun, hended, hW, hsame⟩ := X.leave (v := some w) (fun h => by rw [hret] at h; cases h) hlk
  exact ⟨_, _, X.areturnOut hx hw hret ht hd hr, hrun, hended, _, _, rfl, hQ, ⟨_, rfl⟩, hW, hsame.mono hk hn⟩
theorem own_ret0 (X : Stand p l e R s m args below meth c T locs cells slots) (hx : p.tables.exec = Jvm.exec) (hlk : meth.locks = false) {pc : Nat} {Ls : Array Slot} (hret : meth.sig.returnType = none) (hd : decode c.code pc = .ok (.return_, 1)) (hQ : Q none T.heap locs) (hk : cells ≤ k) (hn : slots ≤ n) :
    own_Fin p e below s Q k n (T.setTop (mkF m pc Ls [])) := by
  obtain ⟨fs, hr, hrun, hended, hW, hsame⟩ := X.leave (v := none) (fun _ => rfl) hlk
  exact ⟨_, _, X.returnOut hx hret hd hr, hrun, hended, _, _, rfl, hQ, ⟨_, rfl⟩, hW, hsame.mono hk hn⟩
theorem own_lrem {tb : Tables} [Ours tb] {target : State} {g : JFrame} (h : At T m c below) (hx : tb.exec = Jvm.exec) (hg : g.method = m) {x y : Int64} {rest : List Value} (hd : decode c.code g.pc = .ok (.lrem, 1)) (hs : g.stack = .long y :: .long x :: rest) (hy : y ≠ 0)
    (hr : Steps tb e below (T.setTop { g with pc := g.pc + 1, stack := .long (x % y) :: rest }) target) : Steps tb e below (T.setTop g) target := by
  have q : x - x / y * y = x % y := lrem_mod x y
  exact XS.lrem h hx hg hd hs hy (by rw [q]; exact hr)
theorem own_callS (X : Stand p l e R s m args below meth c T locs cells slots) (hx : p.tables.exec = Jvm.exec) (hZ : Z.Warmed39 s.vm) {own : String} {index : Nat} {y : MethodName} {bytes : ByteArray} {maxL : Nat} {ret : Option FieldType} {rm : Room} {as' : Array Value}
    (hown : s.vm.findClass own = some m.cls) (w1 : (Jvm.Cond.methodLink own index y).before a0 Z = true) (w2 : (Jvm.Cond.static y).before a0 Z = true) (w3 : (Jvm.Cond.initialized y.cls).before a0 Z = true) (w4 : (Jvm.Cond.code y bytes maxL ret).before a0 Z = true)
    (hy : y.cls ≠ "java/lang/invoke/MethodHandle" ∧ y.cls ≠ "java/lang/invoke/VarHandle") (hM : own_Met l Z [] y bytes maxL ret rm as' h Q) {W : Nat} (hf : rm.frames + 1 ≤ R.frames) (hl : W + (maxL + 11) + rm.locals ≤ R.locals) (eT : T.heap = h)
    {g : JFrame} (hg : g.method = m) (hsize : g.locals.size = c.maxLocals) {argsL rest : List Value} (hlen : ∀ sig, parseMethodDescriptor y.desc = some sig → argsL.length = sig.parameters.length) (has : argsL.toArray = as') (hstack : g.stack = argsL.reverse ++ rest) (hW : 2 * g.monitorRoom + (rest.map fun v => v.category).sum ≤ W)
    (hdg : decode c.code g.pc = .ok (.invokestatic index, 3)) (hc : cells + rm.cells ≤ R.cells) (hs : slots + rm.slots ≤ R.slots) :
    ∃ v T' L, Stand p l e R s m args below meth c T' (locs ++ L) (cells + rm.cells) (slots + rm.slots) ∧ Q v T'.heap L ∧ ∀ t, Steps p.tables e below (T'.setTop { g with pc := g.pc + 3, stack := v.toList ++ rest }) t → Steps p.tables e below (T.setTop g) t := by
  obtain ⟨v, vm1, ⟨T', L', k', n'⟩, -, X', ⟨Lc, hQ, l1, y1, z1⟩, st⟩ := Jvm.LawKit.callS X hx (y := y) hown (mvT hZ w1) (mvT hZ w2) (mvT hZ w3) (mvT hZ w4) hy (backOf (W := W) hM hZ w4 w3 hf hl) (g := g) hg hsize (argsL := argsL) (rest := rest) hlen hstack hW hdg (fun _ _ => ⟨has, eT, hc, hs⟩)
  dsimp only [Pt.U, Pt.locs, Pt.cells, Pt.slots] at X' l1 y1 z1 st hQ
  subst l1 y1 z1
  exact ⟨v, T', Lc, X', hQ, st⟩
theorem own_callN (X : Stand p l e R s m args below meth c T locs cells slots) (hx : p.tables.exec = Jvm.exec) (hZ : Z.Warmed39 s.vm) {own : String} {index : Nat} {y : MethodName} {bytes : ByteArray} {maxL : Nat} {rm : Room} {as' : Array Value} (hy1 : y.name = "<init>")
    (hown : s.vm.findClass own = some m.cls) (w1 : (Jvm.Cond.methodLink own index y).before a0 Z = true) (w2 : (Jvm.Cond.instanceMethod y).before a0 Z = true) (w3 : (Jvm.Cond.initialized y.cls).before a0 Z = true) (w4 : (Jvm.Cond.code y bytes maxL none).before a0 Z = true)
    (hy : y.cls ≠ "java/lang/invoke/MethodHandle" ∧ y.cls ≠ "java/lang/invoke/VarHandle") (hM : own_Met l Z [] y bytes maxL none rm as' h Q) {W : Nat} (hf : rm.frames + 1 ≤ R.frames) (hl : W + (maxL + 11) + rm.locals ≤ R.locals) {a : Addr} (eT : T.heap = h)
    {g : JFrame} (hg : g.method = m) (hsize : g.locals.size = c.maxLocals) {argsL rest : List Value} (hlen : ∀ sig, parseMethodDescriptor y.desc = some sig → argsL.length = sig.parameters.length) (has : (.ref a :: argsL).toArray = as') (hstack : g.stack = argsL.reverse ++ .ref a :: rest) (hW : 2 * g.monitorRoom + (rest.map fun v => v.category).sum ≤ W)
    (hdg : decode c.code g.pc = .ok (.invokespecial index, 3)) (hc : cells + rm.cells ≤ R.cells) (hs : slots + rm.slots ≤ R.slots) :
    ∃ v T' L, Stand p l e R s m args below meth c T' (locs ++ L) (cells + rm.cells) (slots + rm.slots) ∧ Q v T'.heap L ∧ ∀ t, Steps p.tables e below (T'.setTop { g with pc := g.pc + 3, stack := v.toList ++ rest }) t → Steps p.tables e below (T.setTop g) t := by
  obtain ⟨v, vm1, ⟨T', L', k', n'⟩, -, X', ⟨Lc, hQ, l1, y1, z1⟩, st⟩ := X.specialBack hx (y := y) hy1 hown (mvT hZ w1) (mvT hZ w2) (mvT hZ w4) hy (backOf (W := W) hM hZ w4 w3 hf hl) (g := g) hg hsize (Steps.refl _) (a := a) (argsL := argsL) (rest := rest) hlen hstack hW hdg (fun _ _ => ⟨has, eT, hc, hs⟩)
  dsimp only [Pt.U, Pt.locs, Pt.cells, Pt.slots] at X' l1 y1 z1 st hQ
  subst l1 y1 z1
  exact ⟨v, T', Lc, X', hQ, fun t k => st.trans k⟩
theorem own_callV (X : Stand p l e R s m args below meth c T locs cells slots) (hx : p.tables.exec = Jvm.exec) (hZ : Z.Warmed39 s.vm) {own C : String} {index : Nat} {y : MethodName} {bytes : ByteArray} {maxL : Nat} {ret : Option FieldType} {rm : Room} {as' : Array Value}
    (hown : s.vm.findClass own = some m.cls) (w1 : (Jvm.Cond.methodLink own index y).before a0 Z = true) (w2 : (Jvm.Cond.declares y).before a0 Z = true) (w5 : (Jvm.Cond.selects C y y).before a0 Z = true) (w6 : (Jvm.Cond.instanceMethod y).before a0 Z = true) (w3 : (Jvm.Cond.initialized y.cls).before a0 Z = true) (w4 : (Jvm.Cond.code y bytes maxL ret).before a0 Z = true)
    (hy : y.cls ≠ "java/lang/invoke/MethodHandle" ∧ y.cls ≠ "java/lang/invoke/VarHandle") (hM : own_Met l Z [] y bytes maxL ret rm as' h Q) {W : Nat} (hf : rm.frames + 1 ≤ R.frames) (hl : W + (maxL + 11) + rm.locals ≤ R.locals) {a : Addr} (E : Exa Z h a C) (eT : T.heap = h)
    {g : JFrame} (hg : g.method = m) (hsize : g.locals.size = c.maxLocals) {argsL rest : List Value} (hlen : ∀ sig, parseMethodDescriptor y.desc = some sig → argsL.length = sig.parameters.length) (has : (.ref a :: argsL).toArray = as') (hstack : g.stack = argsL.reverse ++ .ref a :: rest) (hW : 2 * g.monitorRoom + (rest.map fun v => v.category).sum ≤ W)
    (hdg : decode c.code g.pc = .ok (.invokevirtual index, 3)) (hc : cells + rm.cells ≤ R.cells) (hs : slots + rm.slots ≤ R.slots) :
    ∃ v T' L, Stand p l e R s m args below meth c T' (locs ++ L) (cells + rm.cells) (slots + rm.slots) ∧ Q v T'.heap L ∧ ∀ t, Steps p.tables e below (T'.setTop { g with pc := g.pc + 3, stack := v.toList ++ rest }) t → Steps p.tables e below (T.setTop g) t := by
  obtain ⟨cq, kq, qa, qb, qc⟩ := isOf hZ eT E
  obtain ⟨v, vm1, ⟨T', L', k', n'⟩, -, X', ⟨Lc, hQ, l1, y1, z1⟩, st⟩ := X.virtualBack hx (y := y) (z := y) hown (mvT hZ w1) (mvT hZ w2) (notFace_of_selects (args := #[]) (mvT hZ w5)) (mvT hZ w5) (mvT hZ w6) hy (backOf (W := W) hM hZ w4 w3 hf hl) qa qc (g := g) hg hsize (Steps.refl _) (argsL := argsL) (rest := rest) hlen hstack hW hdg (fun _ _ => ⟨has, eT, hc, hs⟩)
  dsimp only [Pt.U, Pt.locs, Pt.cells, Pt.slots] at X' l1 y1 z1 st hQ
  subst l1 y1 z1
  exact ⟨v, T', Lc, X', hQ, fun t k => st.trans k⟩
theorem own_newA (X : Stand p l e R s m args below meth c T locs cells slots) (hx : p.tables.exec = Jvm.exec) (hZ : Z.Warmed39 s.vm) {aty : ArrayType} (w : (Jvm.Cond.arrayClass (newarray.typeOf aty)).before a0 Z = true) (eT : T.heap = h) {ty : FieldType} {dv : Value} (hty : newarray.typeOf aty = ty) (hdv : defaultValue ty = dv)
    {g : JFrame} (hg : g.method = m) (hd : decode c.code g.pc = .ok (.newarray aty, 2)) {n : Int32} {rest : List Value} (hs : g.stack = .int n :: rest) (hn : ¬ n < 0) {cap : Nat} (hcap : n.toNatClampNeg ≤ cap) (hb : cap * 8 ≤ 536870912) (hc : cells + 1 ≤ R.cells) (hl : slots + cap ≤ R.slots) (N : Nat) :
    ∃ T' h' k a, Stand p l e R s m args below meth c T' locs (cells + 1) (slots + cap) ∧ T'.heap = h' ∧ Ext h h' ∧ a = h.size ∧ Arv Z h' a k ty n (List.replicate N dv) dv ∧
      ∀ t, Steps p.tables e below (T'.setTop { g with pc := g.pc + 2, stack := .ref a :: rest }) t → Steps p.tables e below (T.setTop g) t := by
  subst hty hdv
  obtain ⟨T', h', k, X', e', E, A, st⟩ := newP X hx hZ w eT hg hd hs hn hcap hb hc hl
  exact ⟨T', h', k, _, X', e', E, rfl, by simpa using (Arv.new A hn).pad (pad_rep [] _ N), st⟩
theorem own_stI (X : Stand p l e R s m args below meth c T locs cells slots) (hx : p.tables.exec = Jvm.exec) (hZ : Z.Warmed39 s.vm) (eT : T.heap = h) {a : Addr} {k : ClassId} {n : Int32} {vs : List Value} {dv : Value} (F : Arv Z h a k .int n vs dv) {j x : Int32} (hj : ¬ j < 0 ∧ j < n) (i : Nat) (hi : j.toNatClampNeg = i) (hl : i < vs.length)
    {g : JFrame} (hg : g.method = m) {rest : List Value} (hs : g.stack = .int x :: .int j :: .ref a :: rest) (hd : decode c.code g.pc = .ok (.iastore, 1)) :
    ∃ T' h', Stand p l e R s m args below meth c T' (locs ++ [⟨a, j.toNatClampNeg⟩]) cells slots ∧ T'.heap = h' ∧ Arv Z h' a k .int n (vs.set i (.int x)) dv ∧ Wr h h' a j.toNatClampNeg (.int x) ∧ ∀ t, Steps p.tables e below (T'.setTop { g with pc := g.pc + 1, stack := rest }) t → Steps p.tables e below (T.setTop g) t := by
  obtain ⟨cl, A, q1, q2, q3, H, G⟩ := F
  obtain ⟨T', h', X', e', W, st⟩ := stI X hx hZ eT A (j := j) (inb_of q2 hj) hg hs hd
  exact ⟨T', h', X', e', Arv.set A q1 q2 q3 H G rfl W i hi hl, W, st⟩
theorem own_stJ (X : Stand p l e R s m args below meth c T locs cells slots) (hx : p.tables.exec = Jvm.exec) (hZ : Z.Warmed39 s.vm) (eT : T.heap = h) {a : Addr} {k : ClassId} {n : Int32} {vs : List Value} {dv : Value} (F : Arv Z h a k .long n vs dv) {j : Int32} {x : Int64} (hj : ¬ j < 0 ∧ j < n) (i : Nat) (hi : j.toNatClampNeg = i) (hl : i < vs.length)
    {g : JFrame} (hg : g.method = m) {rest : List Value} (hs : g.stack = .long x :: .int j :: .ref a :: rest) (hd : decode c.code g.pc = .ok (.lastore, 1)) :
    ∃ T' h', Stand p l e R s m args below meth c T' (locs ++ [⟨a, j.toNatClampNeg⟩]) cells slots ∧ T'.heap = h' ∧ Arv Z h' a k .long n (vs.set i (.long x)) dv ∧ Wr h h' a j.toNatClampNeg (.long x) ∧ ∀ t, Steps p.tables e below (T'.setTop { g with pc := g.pc + 1, stack := rest }) t → Steps p.tables e below (T.setTop g) t := by
  obtain ⟨cl, A, q1, q2, q3, H, G⟩ := F
  obtain ⟨T', h', X', e', W, st⟩ := stJ X hx hZ eT A (j := j) (inb_of q2 hj) hg hs hd
  exact ⟨T', h', X', e', Arv.set A q1 q2 q3 H G rfl W i hi hl, W, st⟩
theorem own_stB (X : Stand p l e R s m args below meth c T locs cells slots) (hx : p.tables.exec = Jvm.exec) (hZ : Z.Warmed39 s.vm) (eT : T.heap = h) {a : Addr} {k : ClassId} {n : Int32} {vs : List Value} {dv : Value} (F : Arv Z h a k .byte n vs dv) {j x : Int32} (hj : ¬ j < 0 ∧ j < n) (i : Nat) (hi : j.toNatClampNeg = i) (hl : i < vs.length)
    {g : JFrame} (hg : g.method = m) {rest : List Value} (hs : g.stack = .int x :: .int j :: .ref a :: rest) (hd : decode c.code g.pc = .ok (.bastore, 1)) :
    ∃ T' h', Stand p l e R s m args below meth c T' (locs ++ [⟨a, j.toNatClampNeg⟩]) cells slots ∧ T'.heap = h' ∧ Arv Z h' a k .byte n (vs.set i (.int (nar .byte x))) dv ∧ Wr h h' a j.toNatClampNeg (.int (nar .byte x)) ∧ ∀ t, Steps p.tables e below (T'.setTop { g with pc := g.pc + 1, stack := rest }) t → Steps p.tables e below (T.setTop g) t := by
  obtain ⟨cl, A, q1, q2, q3, H, G⟩ := F
  obtain ⟨T', h', X', e', W, st⟩ := stB X hx hZ eT A (j := j) (inb_of q2 hj) hg hs hd
  exact ⟨T', h', X', e', Arv.set A q1 q2 q3 H G (fits_nar_byte x) W i hi hl, W, st⟩
theorem own_nar (y : Int32) : nar .byte y.toInt8.toInt32 = y.toInt8.toInt32 := by
  show y.toInt8.toInt32.toInt8.toInt32 = _
  simp
theorem own_stBn (X : Stand p l e R s m args below meth c T locs cells slots) (hx : p.tables.exec = Jvm.exec) (hZ : Z.Warmed39 s.vm) (eT : T.heap = h) {a : Addr} {k : ClassId} {n : Int32} {vs : List Value} {dv : Value} (F : Arv Z h a k .byte n vs dv) {j x : Int32} (hj : ¬ j < 0 ∧ j < n) (i : Nat) (hi : j.toNatClampNeg = i) (hl : i < vs.length)
    {g : JFrame} (hg : g.method = m) {rest : List Value} (hs : g.stack = .int x.toInt8.toInt32 :: .int j :: .ref a :: rest) (hd : decode c.code g.pc = .ok (.bastore, 1)) :
    ∃ T' h', Stand p l e R s m args below meth c T' (locs ++ [⟨a, j.toNatClampNeg⟩]) cells slots ∧ T'.heap = h' ∧ Arv Z h' a k .byte n (vs.set i (.int x.toInt8.toInt32)) dv ∧ Wr h h' a j.toNatClampNeg (.int x.toInt8.toInt32) ∧ ∀ t, Steps p.tables e below (T'.setTop { g with pc := g.pc + 1, stack := rest }) t → Steps p.tables e below (T.setTop g) t := by
  have h := own_stB X hx hZ eT F hj i hi hl hg hs hd
  rw [own_nar] at h
  exact h
theorem own_ldI (X : Stand p l e R s m args below meth c T locs cells slots) (hx : p.tables.exec = Jvm.exec) (hZ : Z.Warmed39 s.vm) (eT : T.heap = h) {a : Addr} {k : ClassId} {n : Int32} {vs : List Value} {dv v : Value} (F : Arv Z h a k .int n vs dv) {j : Int32} (hj : ¬ j < 0 ∧ j < n) (hv : vs.getD j.toNatClampNeg dv = v)
    {g : JFrame} (hg : g.method = m) {rest : List Value} (hs : g.stack = .int j :: .ref a :: rest) (hd : decode c.code g.pc = .ok (.iaload, 1)) :
    ∀ t, Steps p.tables e below (T.setTop { g with pc := g.pc + 1, stack := v :: rest }) t → Steps p.tables e below (T.setTop g) t := by
  obtain ⟨cl, A, q1, q2, q3, H, G⟩ := F
  have hin := inb_of q2 hj
  exact fun t kt => X.iaload hx (j := j) (v := v) (by rw [eT]; exact A.1) (State.isArrayOf_alike hZ.alike A.2.1) A.2.2 hin (H.at hin hv) hg hs hd _ kt
theorem own_ldJ (X : Stand p l e R s m args below meth c T locs cells slots) (hx : p.tables.exec = Jvm.exec) (hZ : Z.Warmed39 s.vm) (eT : T.heap = h) {a : Addr} {k : ClassId} {n : Int32} {vs : List Value} {dv v : Value} (F : Arv Z h a k .long n vs dv) {j : Int32} (hj : ¬ j < 0 ∧ j < n) (hv : vs.getD j.toNatClampNeg dv = v)
    {g : JFrame} (hg : g.method = m) {rest : List Value} (hs : g.stack = .int j :: .ref a :: rest) (hd : decode c.code g.pc = .ok (.laload, 1)) :
    ∀ t, Steps p.tables e below (T.setTop { g with pc := g.pc + 1, stack := v :: rest }) t → Steps p.tables e below (T.setTop g) t := by
  obtain ⟨cl, A, q1, q2, q3, H, G⟩ := F
  have hin := inb_of q2 hj
  exact fun t kt => X.laload hx (j := j) (v := v) (by rw [eT]; exact A.1) (State.isArrayOf_alike hZ.alike A.2.1) A.2.2 hin (H.at hin hv) hg hs hd _ kt
theorem own_ldB (X : Stand p l e R s m args below meth c T locs cells slots) (hx : p.tables.exec = Jvm.exec) (hZ : Z.Warmed39 s.vm) (eT : T.heap = h) {a : Addr} {k : ClassId} {n : Int32} {vs : List Value} {dv v : Value} (F : Arv Z h a k .byte n vs dv) {j : Int32} (hj : ¬ j < 0 ∧ j < n) (hv : vs.getD j.toNatClampNeg dv = v)
    {g : JFrame} (hg : g.method = m) {rest : List Value} (hs : g.stack = .int j :: .ref a :: rest) (hd : decode c.code g.pc = .ok (.baload, 1)) :
    ∀ t, Steps p.tables e below (T.setTop { g with pc := g.pc + 1, stack := v :: rest }) t → Steps p.tables e below (T.setTop g) t := by
  obtain ⟨cl, A, q1, q2, q3, H, G⟩ := F
  have hin := inb_of q2 hj
  exact fun t kt => X.baloadBytes hx (j := j) (v := v) (by rw [eT]; exact A.1) (State.isArrayOf_alike hZ.alike A.2.1) A.2.2 hin (H.at hin hv) hg hs hd _ kt
theorem own_len (X : Stand p l e R s m args below meth c T locs cells slots) (hx : p.tables.exec = Jvm.exec) (hZ : Z.Warmed39 s.vm) (eT : T.heap = h) {a : Addr} {k : ClassId} {ty : FieldType} {n : Int32} {vs : List Value} {dv : Value} (F : Arv Z h a k ty n vs dv)
    {g : JFrame} (hg : g.method = m) {rest : List Value} (hs : g.stack = .ref a :: rest) (hd : decode c.code g.pc = .ok (.arraylength, 1)) :
    ∀ t, Steps p.tables e below (T.setTop { g with pc := g.pc + 1, stack := .int n :: rest }) t → Steps p.tables e below (T.setTop g) t := by
  obtain ⟨cl, A, q1, q2, q3, H, G⟩ := F
  exact fun t kt => X.arraylength hx (by rw [eT]; exact A.1) (State.isArrayOf_alike hZ.alike A.2.1) hg hs hd _ (by rw [len_of q2 q3]; exact kt)
end Own
def own_red (x lg : Int32) : Int32 := ((x.toInt64 &&& (2147483647 : Int64)) % (lg.toInt64 + (1 : Int64))).toInt32
def own_mark (lg v : Int32) : Int32 := if v = lg then v ||| (-2147483648 : Int32) else v
def own_in (z lg : Int32) : Prop := ¬ z < 0 ∧ ¬ lg < z
theorem own_nn (x : Int32) : ¬ (x &&& 2147483647) < 0 := by
  have h1 := c_mask x 2147483647 31 (by omega) (by decide)
  have q0 : (0 : Int32).toInt = 0 := by decide
  rw [Int32.lt_iff_toInt_lt]; omega
theorem own_self {lg : Int32} (h : ¬ lg < 0) : own_in lg lg := ⟨h, by rw [Int32.lt_iff_toInt_lt]; omega⟩
theorem own_lg1 {lg : Int32} (h : ¬ lg < 0) : (lg.toInt64 + (1 : Int64)).toInt = lg.toInt + 1 := by
  have h1 := c_ladd lg.toInt64 1
  have h2 := c_i2l lg
  have q1 : (1 : Int64).toInt = 1 := by decide
  have r := rng32 lg
  have r2 := rng64 (lg.toInt64 + 1)
  omega
theorem own_nz {lg : Int32} (h : ¬ lg < 0) : (lg.toInt64 + (1 : Int64)) ≠ 0 := fun q => by
  have h1 := own_lg1 h
  rw [q] at h1
  have q0 : (0 : Int32).toInt = 0 := by decide
  have q1 : (0 : Int64).toInt = 0 := by decide
  rw [Int32.lt_iff_toInt_lt] at h
  omega
theorem own_redin (x : Int32) {lg : Int32} (h : ¬ lg < 0) : own_in (own_red x lg) lg := by
  have h1 := own_lg1 h
  have h2 := c_maskL x.toInt64 2147483647 31 (by omega) (by decide)
  have q0 : (0 : Int32).toInt = 0 := by decide
  have r := rng32 lg
  rw [Int32.lt_iff_toInt_lt] at h
  have h3 : ((x.toInt64 &&& (2147483647 : Int64)) % (lg.toInt64 + (1 : Int64))).toInt = (x.toInt64 &&& (2147483647 : Int64)).toInt.tmod (lg.toInt64 + (1 : Int64)).toInt := Int64.toInt_mod _ _
  rw [h1] at h3
  have hn : 0 ≤ (x.toInt64 &&& (2147483647 : Int64)).toInt := by rw [h2]; exact Int.emod_nonneg _ (by decide)
  have h4 := (tr (x.toInt64 &&& (2147483647 : Int64)).toInt (lg.toInt + 1)).1 hn
  rw [h4] at h3
  have h5 : 0 ≤ (x.toInt64 &&& (2147483647 : Int64)).toInt % (lg.toInt + 1) := Int.emod_nonneg _ (by omega)
  have h6 : (x.toInt64 &&& (2147483647 : Int64)).toInt % (lg.toInt + 1) < lg.toInt + 1 := Int.emod_lt_of_pos _ (by omega)
  rw [← h3] at h5 h6
  have h7 := c_l2i ((x.toInt64 &&& (2147483647 : Int64)) % (lg.toInt64 + (1 : Int64)))
  have r2 := rng32 (own_red x lg)
  unfold own_in
  rw [Int32.lt_iff_toInt_lt, Int32.lt_iff_toInt_lt]
  unfold own_red at r2 ⊢
  omega
theorem own_chk {z lg : Int32} (hl : ¬ lg < 0) (h : own_in z lg) : (own_mark lg z &&& 2147483647 = z) ∧ (own_mark lg z < 0 ↔ z = lg) := by
  obtain ⟨h1, h2⟩ := h
  have q0 : (0 : Int32).toInt = 0 := by decide
  have hz : z &&& 2147483647 = z := by
    have h3 := c_mask z 2147483647 31 (by omega) (by decide)
    have r := rng32 z
    rw [Int32.lt_iff_toInt_lt] at h1
    apply Int32.toInt_inj.mp
    omega
  unfold own_mark
  by_cases e : z = lg
  · rw [if_pos e]
    refine ⟨?_, ⟨fun _ => e, fun _ => ?_⟩⟩
    · have hd : (z ||| (-2147483648 : Int32)) &&& 2147483647 = (z &&& 2147483647) ||| ((-2147483648 : Int32) &&& 2147483647) := by
        apply Int32.toBitVec_inj.mp
        simp only [Int32.toBitVec_and, Int32.toBitVec_or]
        exact BitVec.and_or_distrib_right
      rw [hd, hz, show ((-2147483648 : Int32) &&& 2147483647) = 0 by decide]
      apply Int32.toBitVec_inj.mp; simp
    · have h3 := (c_orS z (-2147483648)).2.2 (by decide)
      rw [Int32.lt_iff_toInt_lt]; omega
  · rw [if_neg e]
    exact ⟨hz, ⟨fun q => absurd q h1, fun q => absurd q e⟩⟩
def own_QM (Z : State) (a1 : Addr) (k : ClassId) (lg v0 v1 v2 : Int32) (h0 : Heap) (n0 : Nat) (v : Option Value) (h : Heap) (L : List Loc) : Prop := v = some (.ref a1) ∧ Fr n0 L ∧ Keep h0 h [a1] ∧ Arv Z h a1 k .int (3 : Int32) [.int (own_mark lg v0), .int (own_mark lg v1), .int (own_mark lg v2)] (.int (0 : Int32))
theorem d1_0 : decode method_2_code 0 = .ok (.iload_n 0, 1) := by decide +kernel
theorem d1_1 : decode method_2_code 1 = .ok (.i2l, 1) := by decide +kernel
theorem d1_2 : decode method_2_code 2 = .ok (.ldc2_w 7, 3) := by decide +kernel
theorem d1_5 : decode method_2_code 5 = .ok (.land, 1) := by decide +kernel
theorem d1_6 : decode method_2_code 6 = .ok (.iload_n 1, 1) := by decide +kernel
theorem d1_7 : decode method_2_code 7 = .ok (.i2l, 1) := by decide +kernel
theorem d1_8 : decode method_2_code 8 = .ok (.lconst 1, 1) := by decide +kernel
theorem d1_9 : decode method_2_code 9 = .ok (.ladd, 1) := by decide +kernel
theorem d1_10 : decode method_2_code 10 = .ok (.lrem, 1) := by decide +kernel
theorem d1_11 : decode method_2_code 11 = .ok (.l2i, 1) := by decide +kernel
theorem d1_12 : decode method_2_code 12 = .ok (.ireturn, 1) := by decide +kernel
theorem pn_1 : plainFor (⟨"com/example/needlewise/needlewise/ShiftsMarkLongestPinLaw", "reduce", "(II)I"⟩ : MethodName) = true := plainFor_of_name (by first | (simp [plainName, overriddenIn]; done) | decide +kernel)
theorem ef_1 (m : MethodId) (x0 : Int32) (x1 : Int32) : entryFrame m #[(.int x0), (.int x1)] 2 = mkF m 0 #[.val (.int x0), .val (.int x1)] [] := by first | (simp [entryFrame, mkF, argsToLocals, Value.category]; done) | rfl
set_option maxRecDepth 65536 in
set_option maxHeartbeats 40000000 in
theorem rm1 (l : Launch) (Z : State) (a0 : Array Value) (hw : ∀ d ∈ tables_1, d.before a0 Z = true) (p1 : Int32) (p2 : Int32)  (h0 : Heap) (n0 : Nat) (Z0 : n0 ≤ h0.size) (H : ¬ p2 < 0) :
    own_Met l Z [] (⟨"com/example/needlewise/needlewise/ShiftsMarkLongestPinLaw", "reduce", "(II)I"⟩ : MethodName) method_2_code 2 (some .int) ({ frames := 0, cells := 0, slots := 0, locals := 0 } : Room) #[(.int p1), (.int p2)] h0 (own_QP (some (.int (own_red p1 p2))) h0 n0) := by
  refine own_enter pn_1 ?_
  intro p e s m below meth c s₁ X0 hx hby hml hown hret hlk hnm hZ e0
  have hml : c.maxLocals = 2 := hml
  have N0 := Fr.nil n0
  rw [ef_1 m p1 p2]
  show own_Fin p e below s _ _ _ (s₁.setTop (mkF m 0 #[.val (.int p1), .val (.int p2)] []))
  refine own_Fin.step (fun _ => XS.iloadN X0.here hx rfl (hb hby d1_0) rfl) ?_
  show own_Fin p e below s _ _ _ (s₁.setTop (mkF m 1 #[.val (.int p1), .val (.int p2)] [(.int p1)]))
  refine own_Fin.step (fun _ => XS.i2l X0.here hx rfl (hb hby d1_1) rfl) ?_
  show own_Fin p e below s _ _ _ (s₁.setTop (mkF m 2 #[.val (.int p1), .val (.int p2)] [(.long (p1.toInt64))]))
  refine own_Fin.step (X0.ldc2Long hx hown (mvT hZ (own_w hw 5 rfl)) (g := (mkF m 2 #[.val (.int p1), .val (.int p2)] [(.long (p1.toInt64))])) rfl (hb hby d1_2)) ?_
  show own_Fin p e below s _ _ _ (s₁.setTop (mkF m 5 #[.val (.int p1), .val (.int p2)] [(.long (2147483647 : Int64)), (.long (p1.toInt64))]))
  refine own_Fin.step (fun _ => XS.land X0.here hx rfl (hb hby d1_5) rfl) ?_
  show own_Fin p e below s _ _ _ (s₁.setTop (mkF m 6 #[.val (.int p1), .val (.int p2)] [(.long ((p1.toInt64) &&& (2147483647 : Int64)))]))
  refine own_Fin.step (fun _ => XS.iloadN X0.here hx rfl (hb hby d1_6) rfl) ?_
  show own_Fin p e below s _ _ _ (s₁.setTop (mkF m 7 #[.val (.int p1), .val (.int p2)] [(.int p2), (.long ((p1.toInt64) &&& (2147483647 : Int64)))]))
  refine own_Fin.step (fun _ => XS.i2l X0.here hx rfl (hb hby d1_7) rfl) ?_
  show own_Fin p e below s _ _ _ (s₁.setTop (mkF m 8 #[.val (.int p1), .val (.int p2)] [(.long (p2.toInt64)), (.long ((p1.toInt64) &&& (2147483647 : Int64)))]))
  refine own_Fin.step (fun _ => XS.lconst X0.here hx rfl (hb hby d1_8)) ?_
  show own_Fin p e below s _ _ _ (s₁.setTop (mkF m 9 #[.val (.int p1), .val (.int p2)] [(.long (1 : Int64)), (.long (p2.toInt64)), (.long ((p1.toInt64) &&& (2147483647 : Int64)))]))
  refine own_Fin.step (fun _ => XS.ladd X0.here hx rfl (hb hby d1_9) rfl) ?_
  show own_Fin p e below s _ _ _ (s₁.setTop (mkF m 10 #[.val (.int p1), .val (.int p2)] [(.long ((p2.toInt64) + (1 : Int64))), (.long ((p1.toInt64) &&& (2147483647 : Int64)))]))
  refine own_Fin.step (fun _ => own_lrem X0.here hx rfl (hb hby d1_10) rfl (own_nz H)) ?_
  show own_Fin p e below s _ _ _ (s₁.setTop (mkF m 11 #[.val (.int p1), .val (.int p2)] [(.long (((p1.toInt64) &&& (2147483647 : Int64)) % ((p2.toInt64) + (1 : Int64))))]))
  refine own_Fin.step (fun _ => XS.l2i X0.here hx rfl (hb hby d1_11) rfl) ?_
  show own_Fin p e below s _ _ _ (s₁.setTop (mkF m 12 #[.val (.int p1), .val (.int p2)] [(.int ((((p1.toInt64) &&& (2147483647 : Int64)) % ((p2.toInt64) + (1 : Int64))).toInt32))]))
  exact own_retI X0 hx hlk hret (hb hby d1_12) ⟨rfl, N0, e0⟩ (by decide) (by decide)
theorem d2_0 : decode prog_24_method_3_code 0 = .ok (.iconst 0, 1) := by decide +kernel
theorem d2_1 : decode prog_24_method_3_code 1 = .ok (.istore_n 2, 1) := by decide +kernel
theorem d2_2 : decode prog_24_method_3_code 2 = .ok (.iload_n 2, 1) := by decide +kernel
theorem d2_3 : decode prog_24_method_3_code 3 = .ok (.aload_n 0, 1) := by decide +kernel
theorem d2_4 : decode prog_24_method_3_code 4 = .ok (.arraylength, 1) := by decide +kernel
theorem d2_5 : decode prog_24_method_3_code 5 = .ok (.if_icmp .ge 24, 3) := by decide +kernel
theorem d2_8 : decode prog_24_method_3_code 8 = .ok (.aload_n 0, 1) := by decide +kernel
theorem d2_9 : decode prog_24_method_3_code 9 = .ok (.iload_n 2, 1) := by decide +kernel
theorem d2_10 : decode prog_24_method_3_code 10 = .ok (.iaload, 1) := by decide +kernel
theorem d2_11 : decode prog_24_method_3_code 11 = .ok (.iload_n 1, 1) := by decide +kernel
theorem d2_12 : decode prog_24_method_3_code 12 = .ok (.if_icmp .ne 11, 3) := by decide +kernel
theorem d2_15 : decode prog_24_method_3_code 15 = .ok (.aload_n 0, 1) := by decide +kernel
theorem d2_16 : decode prog_24_method_3_code 16 = .ok (.iload_n 2, 1) := by decide +kernel
theorem d2_17 : decode prog_24_method_3_code 17 = .ok (.dup2, 1) := by decide +kernel
theorem d2_18 : decode prog_24_method_3_code 18 = .ok (.iaload, 1) := by decide +kernel
theorem d2_19 : decode prog_24_method_3_code 19 = .ok (.ldc 15, 2) := by decide +kernel
theorem d2_21 : decode prog_24_method_3_code 21 = .ok (.ior, 1) := by decide +kernel
theorem d2_22 : decode prog_24_method_3_code 22 = .ok (.iastore, 1) := by decide +kernel
theorem d2_23 : decode prog_24_method_3_code 23 = .ok (.iinc 2 1, 3) := by decide +kernel
theorem d2_26 : decode prog_24_method_3_code 26 = .ok (.goto (-24), 3) := by decide +kernel
theorem d2_29 : decode prog_24_method_3_code 29 = .ok (.aload_n 0, 1) := by decide +kernel
theorem d2_30 : decode prog_24_method_3_code 30 = .ok (.areturn, 1) := by decide +kernel
theorem pn_2 : plainFor (⟨"com/example/needlewise/needlewise/Shifts", "markLongest", "([II)[I"⟩ : MethodName) = true := plainFor_of_name (by first | (simp [plainName, overriddenIn]; done) | decide +kernel)
theorem ef_2 (m : MethodId) (x0 : Addr) (x1 : Int32) : entryFrame m #[(.ref x0), (.int x1)] 3 = mkF m 0 #[.val (.ref x0), .val (.int x1), .unset] [] := by first | (simp [entryFrame, mkF, argsToLocals, Value.category]; done) | rfl
set_option maxRecDepth 65536 in
set_option maxHeartbeats 40000000 in
theorem rm2 (l : Launch) (Z : State) (a0 : Array Value) (hw : ∀ d ∈ tables_1, d.before a0 Z = true) (a1 : Addr) (p2 : Int32) (k : ClassId) (v0 v1 v2 : Int32) (h0 : Heap) (n0 : Nat) (Z0 : n0 ≤ h0.size) (g1 : n0 ≤ a1) (F : Arv Z h0 a1 k .int (3 : Int32) [.int v0, .int v1, .int v2] (.int (0 : Int32))) :
    own_Met l Z [] (⟨"com/example/needlewise/needlewise/Shifts", "markLongest", "([II)[I"⟩ : MethodName) prog_24_method_3_code 3 (some (.array .int)) ({ frames := 0, cells := 0, slots := 0, locals := 0 } : Room) #[(.ref a1), (.int p2)] h0 (own_QM Z a1 k p2 v0 v1 v2 h0 n0) := by
  refine own_enter pn_2 ?_
  intro p e s m below meth c s₁ X0 hx hby hml hown hret hlk hnm hZ e0
  have hml : c.maxLocals = 3 := hml
  have N0 := Fr.nil n0
  rw [ef_2 m a1 p2]
  show own_Fin p e below s _ _ _ (s₁.setTop (mkF m 0 #[.val (.ref a1), .val (.int p2), .unset] []))
  refine own_Fin.step (fun _ => XS.iconst X0.here hx rfl (hb hby d2_0)) ?_
  show own_Fin p e below s _ _ _ (s₁.setTop (mkF m 1 #[.val (.ref a1), .val (.int p2), .unset] [(.int (0 : Int32))]))
  refine own_Fin.step (fun _ => XS.istoreN X0.here hx rfl (hb hby d2_1) rfl (l' := #[.val (.ref a1), .val (.int p2), .val (.int (0 : Int32))]) rfl) ?_
  show own_Fin p e below s _ _ _ (s₁.setTop (mkF m 2 #[.val (.ref a1), .val (.int p2), .val (.int (0 : Int32))] []))
  refine own_Fin.step (fun _ => XS.iloadN X0.here hx rfl (hb hby d2_2) rfl) ?_
  show own_Fin p e below s _ _ _ (s₁.setTop (mkF m 3 #[.val (.ref a1), .val (.int p2), .val (.int (0 : Int32))] [(.int (0 : Int32))]))
  refine own_Fin.step (fun _ => XS.aloadN X0.here hx rfl (hb hby d2_3) rfl rfl) ?_
  show own_Fin p e below s _ _ _ (s₁.setTop (mkF m 4 #[.val (.ref a1), .val (.int p2), .val (.int (0 : Int32))] [(.ref a1), (.int (0 : Int32))]))
  refine own_Fin.step (own_len X0 hx hZ e0 F (g := (mkF m 4 #[.val (.ref a1), .val (.int p2), .val (.int (0 : Int32))] [(.ref a1), (.int (0 : Int32))])) rfl rfl (hb hby d2_4)) ?_
  show own_Fin p e below s _ _ _ (s₁.setTop (mkF m 5 #[.val (.ref a1), .val (.int p2), .val (.int (0 : Int32))] [(.int (3 : Int32)), (.int (0 : Int32))]))
  refine own_Fin.step (fun _ => XS.icmpNo X0.here hx rfl (hb hby d2_5) rfl (XT.ii_ge_f (by decide : (0 : Int32) < (3 : Int32)))) ?_
  show own_Fin p e below s _ _ _ (s₁.setTop (mkF m 8 #[.val (.ref a1), .val (.int p2), .val (.int (0 : Int32))] []))
  refine own_Fin.step (fun _ => XS.aloadN X0.here hx rfl (hb hby d2_8) rfl rfl) ?_
  show own_Fin p e below s _ _ _ (s₁.setTop (mkF m 9 #[.val (.ref a1), .val (.int p2), .val (.int (0 : Int32))] [(.ref a1)]))
  refine own_Fin.step (fun _ => XS.iloadN X0.here hx rfl (hb hby d2_9) rfl) ?_
  show own_Fin p e below s _ _ _ (s₁.setTop (mkF m 10 #[.val (.ref a1), .val (.int p2), .val (.int (0 : Int32))] [(.int (0 : Int32)), (.ref a1)]))
  refine own_Fin.step (own_ldI X0 hx hZ e0 F (j := (0 : Int32)) (v := (.int v0)) ⟨by decide, by decide⟩ rfl (g := (mkF m 10 #[.val (.ref a1), .val (.int p2), .val (.int (0 : Int32))] [(.int (0 : Int32)), (.ref a1)])) rfl rfl (hb hby d2_10)) ?_
  show own_Fin p e below s _ _ _ (s₁.setTop (mkF m 11 #[.val (.ref a1), .val (.int p2), .val (.int (0 : Int32))] [(.int v0)]))
  refine own_Fin.step (fun _ => XS.iloadN X0.here hx rfl (hb hby d2_11) rfl) ?_
  show own_Fin p e below s _ _ _ (s₁.setTop (mkF m 12 #[.val (.ref a1), .val (.int p2), .val (.int (0 : Int32))] [(.int p2), (.int v0)]))
  by_cases hc12_1 : v0 = p2
  ·
    refine own_Fin.step (fun _ => XS.icmpNo X0.here hx rfl (hb hby d2_12) rfl (XT.ii_ne_f hc12_1)) ?_
    show own_Fin p e below s _ _ _ (s₁.setTop (mkF m 15 #[.val (.ref a1), .val (.int p2), .val (.int (0 : Int32))] []))
    refine own_Fin.step (fun _ => XS.aloadN X0.here hx rfl (hb hby d2_15) rfl rfl) ?_
    show own_Fin p e below s _ _ _ (s₁.setTop (mkF m 16 #[.val (.ref a1), .val (.int p2), .val (.int (0 : Int32))] [(.ref a1)]))
    refine own_Fin.step (fun _ => XS.iloadN X0.here hx rfl (hb hby d2_16) rfl) ?_
    show own_Fin p e below s _ _ _ (s₁.setTop (mkF m 17 #[.val (.ref a1), .val (.int p2), .val (.int (0 : Int32))] [(.int (0 : Int32)), (.ref a1)]))
    refine own_Fin.step (fun _ => XT.dup2 X0.here hx rfl (hb hby d2_17) rfl rfl rfl) ?_
    show own_Fin p e below s _ _ _ (s₁.setTop (mkF m 18 #[.val (.ref a1), .val (.int p2), .val (.int (0 : Int32))] [(.int (0 : Int32)), (.ref a1), (.int (0 : Int32)), (.ref a1)]))
    refine own_Fin.step (own_ldI X0 hx hZ e0 F (j := (0 : Int32)) (v := (.int v0)) ⟨by decide, by decide⟩ rfl (g := (mkF m 18 #[.val (.ref a1), .val (.int p2), .val (.int (0 : Int32))] [(.int (0 : Int32)), (.ref a1), (.int (0 : Int32)), (.ref a1)])) rfl rfl (hb hby d2_18)) ?_
    show own_Fin p e below s _ _ _ (s₁.setTop (mkF m 19 #[.val (.ref a1), .val (.int p2), .val (.int (0 : Int32))] [(.int v0), (.int (0 : Int32)), (.ref a1)]))
    refine own_Fin.step (X0.ldcInt hx hown (mvT hZ (own_w hw 11 rfl)) (g := (mkF m 19 #[.val (.ref a1), .val (.int p2), .val (.int (0 : Int32))] [(.int v0), (.int (0 : Int32)), (.ref a1)])) rfl (hb hby d2_19)) ?_
    show own_Fin p e below s _ _ _ (s₁.setTop (mkF m 21 #[.val (.ref a1), .val (.int p2), .val (.int (0 : Int32))] [(.int (-2147483648 : Int32)), (.int v0), (.int (0 : Int32)), (.ref a1)]))
    refine own_Fin.step (fun _ => XS.ior X0.here hx rfl (hb hby d2_21) rfl) ?_
    show own_Fin p e below s _ _ _ (s₁.setTop (mkF m 22 #[.val (.ref a1), .val (.int p2), .val (.int (0 : Int32))] [(.int (v0 ||| (-2147483648 : Int32))), (.int (0 : Int32)), (.ref a1)]))
    obtain ⟨T2, h2, X2, e2, V2, W2, st2⟩ := own_stI X0 hx hZ e0 F (j := (0 : Int32)) ⟨by decide, by decide⟩ (0) rfl (Nat.le_of_ble_eq_true rfl) (g := (mkF m 22 #[.val (.ref a1), .val (.int p2), .val (.int (0 : Int32))] [(.int (v0 ||| (-2147483648 : Int32))), (.int (0 : Int32)), (.ref a1)])) rfl rfl (hb hby d2_22)
    have V2' : Arv Z h2 a1 k .int (3 : Int32) [(.int (v0 ||| (-2147483648 : Int32))), (.int v1), (.int v2)] (.int (0 : Int32)) := V2
    have N2 := Fr.snoc X2 N0 g1
    have Z2 : n0 ≤ h2.size := Nat.le_trans Z0 (Nat.le_of_eq W2.size.symm)
    have K4 : Keep h0 h2 [a1] := (Keep.refl h0 [a1]).wr W2 (Or.inl (List.mem_of_getElem? (i := 0) rfl))
    refine own_Fin.step st2 ?_
    show own_Fin p e below s _ _ _ (T2.setTop (mkF m 23 #[.val (.ref a1), .val (.int p2), .val (.int (0 : Int32))] []))
    refine own_Fin.step (fun _ => XS.iinc X2.here hx rfl (hb hby d2_23) rfl (l' := #[.val (.ref a1), .val (.int p2), .val (.int (1 : Int32))]) rfl) ?_
    show own_Fin p e below s _ _ _ (T2.setTop (mkF m 26 #[.val (.ref a1), .val (.int p2), .val (.int (1 : Int32))] []))
    refine own_Fin.step (fun _ => XS.goto X2.here hx rfl (pc0 := 26) (pc' := 2) rfl (hb hby d2_26) (by decide) (by decide)) ?_
    show own_Fin p e below s _ _ _ (T2.setTop (mkF m 2 #[.val (.ref a1), .val (.int p2), .val (.int (1 : Int32))] []))
    refine own_Fin.step (fun _ => XS.iloadN X2.here hx rfl (hb hby d2_2) rfl) ?_
    show own_Fin p e below s _ _ _ (T2.setTop (mkF m 3 #[.val (.ref a1), .val (.int p2), .val (.int (1 : Int32))] [(.int (1 : Int32))]))
    refine own_Fin.step (fun _ => XS.aloadN X2.here hx rfl (hb hby d2_3) rfl rfl) ?_
    show own_Fin p e below s _ _ _ (T2.setTop (mkF m 4 #[.val (.ref a1), .val (.int p2), .val (.int (1 : Int32))] [(.ref a1), (.int (1 : Int32))]))
    refine own_Fin.step (own_len X2 hx hZ e2 V2' (g := (mkF m 4 #[.val (.ref a1), .val (.int p2), .val (.int (1 : Int32))] [(.ref a1), (.int (1 : Int32))])) rfl rfl (hb hby d2_4)) ?_
    show own_Fin p e below s _ _ _ (T2.setTop (mkF m 5 #[.val (.ref a1), .val (.int p2), .val (.int (1 : Int32))] [(.int (3 : Int32)), (.int (1 : Int32))]))
    refine own_Fin.step (fun _ => XS.icmpNo X2.here hx rfl (hb hby d2_5) rfl (XT.ii_ge_f (by decide : (1 : Int32) < (3 : Int32)))) ?_
    show own_Fin p e below s _ _ _ (T2.setTop (mkF m 8 #[.val (.ref a1), .val (.int p2), .val (.int (1 : Int32))] []))
    refine own_Fin.step (fun _ => XS.aloadN X2.here hx rfl (hb hby d2_8) rfl rfl) ?_
    show own_Fin p e below s _ _ _ (T2.setTop (mkF m 9 #[.val (.ref a1), .val (.int p2), .val (.int (1 : Int32))] [(.ref a1)]))
    refine own_Fin.step (fun _ => XS.iloadN X2.here hx rfl (hb hby d2_9) rfl) ?_
    show own_Fin p e below s _ _ _ (T2.setTop (mkF m 10 #[.val (.ref a1), .val (.int p2), .val (.int (1 : Int32))] [(.int (1 : Int32)), (.ref a1)]))
    refine own_Fin.step (own_ldI X2 hx hZ e2 V2' (j := (1 : Int32)) (v := (.int v1)) ⟨by decide, by decide⟩ rfl (g := (mkF m 10 #[.val (.ref a1), .val (.int p2), .val (.int (1 : Int32))] [(.int (1 : Int32)), (.ref a1)])) rfl rfl (hb hby d2_10)) ?_
    show own_Fin p e below s _ _ _ (T2.setTop (mkF m 11 #[.val (.ref a1), .val (.int p2), .val (.int (1 : Int32))] [(.int v1)]))
    refine own_Fin.step (fun _ => XS.iloadN X2.here hx rfl (hb hby d2_11) rfl) ?_
    show own_Fin p e below s _ _ _ (T2.setTop (mkF m 12 #[.val (.ref a1), .val (.int p2), .val (.int (1 : Int32))] [(.int p2), (.int v1)]))
    by_cases hc12_5 : v1 = p2
    ·
      refine own_Fin.step (fun _ => XS.icmpNo X2.here hx rfl (hb hby d2_12) rfl (XT.ii_ne_f hc12_5)) ?_
      show own_Fin p e below s _ _ _ (T2.setTop (mkF m 15 #[.val (.ref a1), .val (.int p2), .val (.int (1 : Int32))] []))
      refine own_Fin.step (fun _ => XS.aloadN X2.here hx rfl (hb hby d2_15) rfl rfl) ?_
      show own_Fin p e below s _ _ _ (T2.setTop (mkF m 16 #[.val (.ref a1), .val (.int p2), .val (.int (1 : Int32))] [(.ref a1)]))
      refine own_Fin.step (fun _ => XS.iloadN X2.here hx rfl (hb hby d2_16) rfl) ?_
      show own_Fin p e below s _ _ _ (T2.setTop (mkF m 17 #[.val (.ref a1), .val (.int p2), .val (.int (1 : Int32))] [(.int (1 : Int32)), (.ref a1)]))
      refine own_Fin.step (fun _ => XT.dup2 X2.here hx rfl (hb hby d2_17) rfl rfl rfl) ?_
      show own_Fin p e below s _ _ _ (T2.setTop (mkF m 18 #[.val (.ref a1), .val (.int p2), .val (.int (1 : Int32))] [(.int (1 : Int32)), (.ref a1), (.int (1 : Int32)), (.ref a1)]))
      refine own_Fin.step (own_ldI X2 hx hZ e2 V2' (j := (1 : Int32)) (v := (.int v1)) ⟨by decide, by decide⟩ rfl (g := (mkF m 18 #[.val (.ref a1), .val (.int p2), .val (.int (1 : Int32))] [(.int (1 : Int32)), (.ref a1), (.int (1 : Int32)), (.ref a1)])) rfl rfl (hb hby d2_18)) ?_
      show own_Fin p e below s _ _ _ (T2.setTop (mkF m 19 #[.val (.ref a1), .val (.int p2), .val (.int (1 : Int32))] [(.int v1), (.int (1 : Int32)), (.ref a1)]))
      refine own_Fin.step (X2.ldcInt hx hown (mvT hZ (own_w hw 11 rfl)) (g := (mkF m 19 #[.val (.ref a1), .val (.int p2), .val (.int (1 : Int32))] [(.int v1), (.int (1 : Int32)), (.ref a1)])) rfl (hb hby d2_19)) ?_
      show own_Fin p e below s _ _ _ (T2.setTop (mkF m 21 #[.val (.ref a1), .val (.int p2), .val (.int (1 : Int32))] [(.int (-2147483648 : Int32)), (.int v1), (.int (1 : Int32)), (.ref a1)]))
      refine own_Fin.step (fun _ => XS.ior X2.here hx rfl (hb hby d2_21) rfl) ?_
      show own_Fin p e below s _ _ _ (T2.setTop (mkF m 22 #[.val (.ref a1), .val (.int p2), .val (.int (1 : Int32))] [(.int (v1 ||| (-2147483648 : Int32))), (.int (1 : Int32)), (.ref a1)]))
      obtain ⟨T6, h6, X6, e6, V6, W6, st6⟩ := own_stI X2 hx hZ e2 V2' (j := (1 : Int32)) ⟨by decide, by decide⟩ (1) rfl (Nat.le_of_ble_eq_true rfl) (g := (mkF m 22 #[.val (.ref a1), .val (.int p2), .val (.int (1 : Int32))] [(.int (v1 ||| (-2147483648 : Int32))), (.int (1 : Int32)), (.ref a1)])) rfl rfl (hb hby d2_22)
      have V6' : Arv Z h6 a1 k .int (3 : Int32) [(.int (v0 ||| (-2147483648 : Int32))), (.int (v1 ||| (-2147483648 : Int32))), (.int v2)] (.int (0 : Int32)) := V6
      have N6 := Fr.snoc X6 N2 g1
      have Z6 : n0 ≤ h6.size := Nat.le_trans Z2 (Nat.le_of_eq W6.size.symm)
      have K8 : Keep h0 h6 [a1] := K4.wr W6 (Or.inl (List.mem_of_getElem? (i := 0) rfl))
      refine own_Fin.step st6 ?_
      show own_Fin p e below s _ _ _ (T6.setTop (mkF m 23 #[.val (.ref a1), .val (.int p2), .val (.int (1 : Int32))] []))
      refine own_Fin.step (fun _ => XS.iinc X6.here hx rfl (hb hby d2_23) rfl (l' := #[.val (.ref a1), .val (.int p2), .val (.int (2 : Int32))]) rfl) ?_
      show own_Fin p e below s _ _ _ (T6.setTop (mkF m 26 #[.val (.ref a1), .val (.int p2), .val (.int (2 : Int32))] []))
      refine own_Fin.step (fun _ => XS.goto X6.here hx rfl (pc0 := 26) (pc' := 2) rfl (hb hby d2_26) (by decide) (by decide)) ?_
      show own_Fin p e below s _ _ _ (T6.setTop (mkF m 2 #[.val (.ref a1), .val (.int p2), .val (.int (2 : Int32))] []))
      refine own_Fin.step (fun _ => XS.iloadN X6.here hx rfl (hb hby d2_2) rfl) ?_
      show own_Fin p e below s _ _ _ (T6.setTop (mkF m 3 #[.val (.ref a1), .val (.int p2), .val (.int (2 : Int32))] [(.int (2 : Int32))]))
      refine own_Fin.step (fun _ => XS.aloadN X6.here hx rfl (hb hby d2_3) rfl rfl) ?_
      show own_Fin p e below s _ _ _ (T6.setTop (mkF m 4 #[.val (.ref a1), .val (.int p2), .val (.int (2 : Int32))] [(.ref a1), (.int (2 : Int32))]))
      refine own_Fin.step (own_len X6 hx hZ e6 V6' (g := (mkF m 4 #[.val (.ref a1), .val (.int p2), .val (.int (2 : Int32))] [(.ref a1), (.int (2 : Int32))])) rfl rfl (hb hby d2_4)) ?_
      show own_Fin p e below s _ _ _ (T6.setTop (mkF m 5 #[.val (.ref a1), .val (.int p2), .val (.int (2 : Int32))] [(.int (3 : Int32)), (.int (2 : Int32))]))
      refine own_Fin.step (fun _ => XS.icmpNo X6.here hx rfl (hb hby d2_5) rfl (XT.ii_ge_f (by decide : (2 : Int32) < (3 : Int32)))) ?_
      show own_Fin p e below s _ _ _ (T6.setTop (mkF m 8 #[.val (.ref a1), .val (.int p2), .val (.int (2 : Int32))] []))
      refine own_Fin.step (fun _ => XS.aloadN X6.here hx rfl (hb hby d2_8) rfl rfl) ?_
      show own_Fin p e below s _ _ _ (T6.setTop (mkF m 9 #[.val (.ref a1), .val (.int p2), .val (.int (2 : Int32))] [(.ref a1)]))
      refine own_Fin.step (fun _ => XS.iloadN X6.here hx rfl (hb hby d2_9) rfl) ?_
      show own_Fin p e below s _ _ _ (T6.setTop (mkF m 10 #[.val (.ref a1), .val (.int p2), .val (.int (2 : Int32))] [(.int (2 : Int32)), (.ref a1)]))
      refine own_Fin.step (own_ldI X6 hx hZ e6 V6' (j := (2 : Int32)) (v := (.int v2)) ⟨by decide, by decide⟩ rfl (g := (mkF m 10 #[.val (.ref a1), .val (.int p2), .val (.int (2 : Int32))] [(.int (2 : Int32)), (.ref a1)])) rfl rfl (hb hby d2_10)) ?_
      show own_Fin p e below s _ _ _ (T6.setTop (mkF m 11 #[.val (.ref a1), .val (.int p2), .val (.int (2 : Int32))] [(.int v2)]))
      refine own_Fin.step (fun _ => XS.iloadN X6.here hx rfl (hb hby d2_11) rfl) ?_
      show own_Fin p e below s _ _ _ (T6.setTop (mkF m 12 #[.val (.ref a1), .val (.int p2), .val (.int (2 : Int32))] [(.int p2), (.int v2)]))
      by_cases hc12_9 : v2 = p2
      ·
        refine own_Fin.step (fun _ => XS.icmpNo X6.here hx rfl (hb hby d2_12) rfl (XT.ii_ne_f hc12_9)) ?_
        show own_Fin p e below s _ _ _ (T6.setTop (mkF m 15 #[.val (.ref a1), .val (.int p2), .val (.int (2 : Int32))] []))
        refine own_Fin.step (fun _ => XS.aloadN X6.here hx rfl (hb hby d2_15) rfl rfl) ?_
        show own_Fin p e below s _ _ _ (T6.setTop (mkF m 16 #[.val (.ref a1), .val (.int p2), .val (.int (2 : Int32))] [(.ref a1)]))
        refine own_Fin.step (fun _ => XS.iloadN X6.here hx rfl (hb hby d2_16) rfl) ?_
        show own_Fin p e below s _ _ _ (T6.setTop (mkF m 17 #[.val (.ref a1), .val (.int p2), .val (.int (2 : Int32))] [(.int (2 : Int32)), (.ref a1)]))
        refine own_Fin.step (fun _ => XT.dup2 X6.here hx rfl (hb hby d2_17) rfl rfl rfl) ?_
        show own_Fin p e below s _ _ _ (T6.setTop (mkF m 18 #[.val (.ref a1), .val (.int p2), .val (.int (2 : Int32))] [(.int (2 : Int32)), (.ref a1), (.int (2 : Int32)), (.ref a1)]))
        refine own_Fin.step (own_ldI X6 hx hZ e6 V6' (j := (2 : Int32)) (v := (.int v2)) ⟨by decide, by decide⟩ rfl (g := (mkF m 18 #[.val (.ref a1), .val (.int p2), .val (.int (2 : Int32))] [(.int (2 : Int32)), (.ref a1), (.int (2 : Int32)), (.ref a1)])) rfl rfl (hb hby d2_18)) ?_
        show own_Fin p e below s _ _ _ (T6.setTop (mkF m 19 #[.val (.ref a1), .val (.int p2), .val (.int (2 : Int32))] [(.int v2), (.int (2 : Int32)), (.ref a1)]))
        refine own_Fin.step (X6.ldcInt hx hown (mvT hZ (own_w hw 11 rfl)) (g := (mkF m 19 #[.val (.ref a1), .val (.int p2), .val (.int (2 : Int32))] [(.int v2), (.int (2 : Int32)), (.ref a1)])) rfl (hb hby d2_19)) ?_
        show own_Fin p e below s _ _ _ (T6.setTop (mkF m 21 #[.val (.ref a1), .val (.int p2), .val (.int (2 : Int32))] [(.int (-2147483648 : Int32)), (.int v2), (.int (2 : Int32)), (.ref a1)]))
        refine own_Fin.step (fun _ => XS.ior X6.here hx rfl (hb hby d2_21) rfl) ?_
        show own_Fin p e below s _ _ _ (T6.setTop (mkF m 22 #[.val (.ref a1), .val (.int p2), .val (.int (2 : Int32))] [(.int (v2 ||| (-2147483648 : Int32))), (.int (2 : Int32)), (.ref a1)]))
        obtain ⟨T10, h10, X10, e10, V10, W10, st10⟩ := own_stI X6 hx hZ e6 V6' (j := (2 : Int32)) ⟨by decide, by decide⟩ (2) rfl (Nat.le_of_ble_eq_true rfl) (g := (mkF m 22 #[.val (.ref a1), .val (.int p2), .val (.int (2 : Int32))] [(.int (v2 ||| (-2147483648 : Int32))), (.int (2 : Int32)), (.ref a1)])) rfl rfl (hb hby d2_22)
        have V10' : Arv Z h10 a1 k .int (3 : Int32) [(.int (v0 ||| (-2147483648 : Int32))), (.int (v1 ||| (-2147483648 : Int32))), (.int (v2 ||| (-2147483648 : Int32)))] (.int (0 : Int32)) := V10
        have N10 := Fr.snoc X10 N6 g1
        have Z10 : n0 ≤ h10.size := Nat.le_trans Z6 (Nat.le_of_eq W10.size.symm)
        have K12 : Keep h0 h10 [a1] := K8.wr W10 (Or.inl (List.mem_of_getElem? (i := 0) rfl))
        refine own_Fin.step st10 ?_
        show own_Fin p e below s _ _ _ (T10.setTop (mkF m 23 #[.val (.ref a1), .val (.int p2), .val (.int (2 : Int32))] []))
        refine own_Fin.step (fun _ => XS.iinc X10.here hx rfl (hb hby d2_23) rfl (l' := #[.val (.ref a1), .val (.int p2), .val (.int (3 : Int32))]) rfl) ?_
        show own_Fin p e below s _ _ _ (T10.setTop (mkF m 26 #[.val (.ref a1), .val (.int p2), .val (.int (3 : Int32))] []))
        refine own_Fin.step (fun _ => XS.goto X10.here hx rfl (pc0 := 26) (pc' := 2) rfl (hb hby d2_26) (by decide) (by decide)) ?_
        show own_Fin p e below s _ _ _ (T10.setTop (mkF m 2 #[.val (.ref a1), .val (.int p2), .val (.int (3 : Int32))] []))
        refine own_Fin.step (fun _ => XS.iloadN X10.here hx rfl (hb hby d2_2) rfl) ?_
        show own_Fin p e below s _ _ _ (T10.setTop (mkF m 3 #[.val (.ref a1), .val (.int p2), .val (.int (3 : Int32))] [(.int (3 : Int32))]))
        refine own_Fin.step (fun _ => XS.aloadN X10.here hx rfl (hb hby d2_3) rfl rfl) ?_
        show own_Fin p e below s _ _ _ (T10.setTop (mkF m 4 #[.val (.ref a1), .val (.int p2), .val (.int (3 : Int32))] [(.ref a1), (.int (3 : Int32))]))
        refine own_Fin.step (own_len X10 hx hZ e10 V10' (g := (mkF m 4 #[.val (.ref a1), .val (.int p2), .val (.int (3 : Int32))] [(.ref a1), (.int (3 : Int32))])) rfl rfl (hb hby d2_4)) ?_
        show own_Fin p e below s _ _ _ (T10.setTop (mkF m 5 #[.val (.ref a1), .val (.int p2), .val (.int (3 : Int32))] [(.int (3 : Int32)), (.int (3 : Int32))]))
        refine own_Fin.step (fun _ => XS.icmpYes X10.here hx rfl (pc0 := 5) (pc' := 29) rfl (hb hby d2_5) rfl (XT.ii_ge_t (by decide : ¬ ((3 : Int32) < (3 : Int32)))) (by decide) (by decide)) ?_
        show own_Fin p e below s _ _ _ (T10.setTop (mkF m 29 #[.val (.ref a1), .val (.int p2), .val (.int (3 : Int32))] []))
        refine own_Fin.step (fun _ => XS.aloadN X10.here hx rfl (hb hby d2_29) rfl rfl) ?_
        show own_Fin p e below s _ _ _ (T10.setTop (mkF m 30 #[.val (.ref a1), .val (.int p2), .val (.int (3 : Int32))] [(.ref a1)]))
        exact own_retR X10 hx hlk rfl hret rfl (hb hby d2_30) (by rw [e10]; exact ⟨rfl, N10, K12, by rw [show own_mark p2 v0 = (v0 ||| (-2147483648 : Int32)) from if_pos hc12_1, show own_mark p2 v1 = (v1 ||| (-2147483648 : Int32)) from if_pos hc12_5, show own_mark p2 v2 = (v2 ||| (-2147483648 : Int32)) from if_pos hc12_9]; exact V10'⟩) (by decide) (by decide)
      ·
        refine own_Fin.step (fun _ => XS.icmpYes X6.here hx rfl (pc0 := 12) (pc' := 23) rfl (hb hby d2_12) rfl (XT.ii_ne_t hc12_9) (by decide) (by decide)) ?_
        show own_Fin p e below s _ _ _ (T6.setTop (mkF m 23 #[.val (.ref a1), .val (.int p2), .val (.int (2 : Int32))] []))
        refine own_Fin.step (fun _ => XS.iinc X6.here hx rfl (hb hby d2_23) rfl (l' := #[.val (.ref a1), .val (.int p2), .val (.int (3 : Int32))]) rfl) ?_
        show own_Fin p e below s _ _ _ (T6.setTop (mkF m 26 #[.val (.ref a1), .val (.int p2), .val (.int (3 : Int32))] []))
        refine own_Fin.step (fun _ => XS.goto X6.here hx rfl (pc0 := 26) (pc' := 2) rfl (hb hby d2_26) (by decide) (by decide)) ?_
        show own_Fin p e below s _ _ _ (T6.setTop (mkF m 2 #[.val (.ref a1), .val (.int p2), .val (.int (3 : Int32))] []))
        refine own_Fin.step (fun _ => XS.iloadN X6.here hx rfl (hb hby d2_2) rfl) ?_
        show own_Fin p e below s _ _ _ (T6.setTop (mkF m 3 #[.val (.ref a1), .val (.int p2), .val (.int (3 : Int32))] [(.int (3 : Int32))]))
        refine own_Fin.step (fun _ => XS.aloadN X6.here hx rfl (hb hby d2_3) rfl rfl) ?_
        show own_Fin p e below s _ _ _ (T6.setTop (mkF m 4 #[.val (.ref a1), .val (.int p2), .val (.int (3 : Int32))] [(.ref a1), (.int (3 : Int32))]))
        refine own_Fin.step (own_len X6 hx hZ e6 V6' (g := (mkF m 4 #[.val (.ref a1), .val (.int p2), .val (.int (3 : Int32))] [(.ref a1), (.int (3 : Int32))])) rfl rfl (hb hby d2_4)) ?_
        show own_Fin p e below s _ _ _ (T6.setTop (mkF m 5 #[.val (.ref a1), .val (.int p2), .val (.int (3 : Int32))] [(.int (3 : Int32)), (.int (3 : Int32))]))
        refine own_Fin.step (fun _ => XS.icmpYes X6.here hx rfl (pc0 := 5) (pc' := 29) rfl (hb hby d2_5) rfl (XT.ii_ge_t (by decide : ¬ ((3 : Int32) < (3 : Int32)))) (by decide) (by decide)) ?_
        show own_Fin p e below s _ _ _ (T6.setTop (mkF m 29 #[.val (.ref a1), .val (.int p2), .val (.int (3 : Int32))] []))
        refine own_Fin.step (fun _ => XS.aloadN X6.here hx rfl (hb hby d2_29) rfl rfl) ?_
        show own_Fin p e below s _ _ _ (T6.setTop (mkF m 30 #[.val (.ref a1), .val (.int p2), .val (.int (3 : Int32))] [(.ref a1)]))
        exact own_retR X6 hx hlk rfl hret rfl (hb hby d2_30) (by rw [e6]; exact ⟨rfl, N6, K8, by rw [show own_mark p2 v0 = (v0 ||| (-2147483648 : Int32)) from if_pos hc12_1, show own_mark p2 v1 = (v1 ||| (-2147483648 : Int32)) from if_pos hc12_5, show own_mark p2 v2 = v2 from if_neg hc12_9]; exact V6'⟩) (by decide) (by decide)
    ·
      refine own_Fin.step (fun _ => XS.icmpYes X2.here hx rfl (pc0 := 12) (pc' := 23) rfl (hb hby d2_12) rfl (XT.ii_ne_t hc12_5) (by decide) (by decide)) ?_
      show own_Fin p e below s _ _ _ (T2.setTop (mkF m 23 #[.val (.ref a1), .val (.int p2), .val (.int (1 : Int32))] []))
      refine own_Fin.step (fun _ => XS.iinc X2.here hx rfl (hb hby d2_23) rfl (l' := #[.val (.ref a1), .val (.int p2), .val (.int (2 : Int32))]) rfl) ?_
      show own_Fin p e below s _ _ _ (T2.setTop (mkF m 26 #[.val (.ref a1), .val (.int p2), .val (.int (2 : Int32))] []))
      refine own_Fin.step (fun _ => XS.goto X2.here hx rfl (pc0 := 26) (pc' := 2) rfl (hb hby d2_26) (by decide) (by decide)) ?_
      show own_Fin p e below s _ _ _ (T2.setTop (mkF m 2 #[.val (.ref a1), .val (.int p2), .val (.int (2 : Int32))] []))
      refine own_Fin.step (fun _ => XS.iloadN X2.here hx rfl (hb hby d2_2) rfl) ?_
      show own_Fin p e below s _ _ _ (T2.setTop (mkF m 3 #[.val (.ref a1), .val (.int p2), .val (.int (2 : Int32))] [(.int (2 : Int32))]))
      refine own_Fin.step (fun _ => XS.aloadN X2.here hx rfl (hb hby d2_3) rfl rfl) ?_
      show own_Fin p e below s _ _ _ (T2.setTop (mkF m 4 #[.val (.ref a1), .val (.int p2), .val (.int (2 : Int32))] [(.ref a1), (.int (2 : Int32))]))
      refine own_Fin.step (own_len X2 hx hZ e2 V2' (g := (mkF m 4 #[.val (.ref a1), .val (.int p2), .val (.int (2 : Int32))] [(.ref a1), (.int (2 : Int32))])) rfl rfl (hb hby d2_4)) ?_
      show own_Fin p e below s _ _ _ (T2.setTop (mkF m 5 #[.val (.ref a1), .val (.int p2), .val (.int (2 : Int32))] [(.int (3 : Int32)), (.int (2 : Int32))]))
      refine own_Fin.step (fun _ => XS.icmpNo X2.here hx rfl (hb hby d2_5) rfl (XT.ii_ge_f (by decide : (2 : Int32) < (3 : Int32)))) ?_
      show own_Fin p e below s _ _ _ (T2.setTop (mkF m 8 #[.val (.ref a1), .val (.int p2), .val (.int (2 : Int32))] []))
      refine own_Fin.step (fun _ => XS.aloadN X2.here hx rfl (hb hby d2_8) rfl rfl) ?_
      show own_Fin p e below s _ _ _ (T2.setTop (mkF m 9 #[.val (.ref a1), .val (.int p2), .val (.int (2 : Int32))] [(.ref a1)]))
      refine own_Fin.step (fun _ => XS.iloadN X2.here hx rfl (hb hby d2_9) rfl) ?_
      show own_Fin p e below s _ _ _ (T2.setTop (mkF m 10 #[.val (.ref a1), .val (.int p2), .val (.int (2 : Int32))] [(.int (2 : Int32)), (.ref a1)]))
      refine own_Fin.step (own_ldI X2 hx hZ e2 V2' (j := (2 : Int32)) (v := (.int v2)) ⟨by decide, by decide⟩ rfl (g := (mkF m 10 #[.val (.ref a1), .val (.int p2), .val (.int (2 : Int32))] [(.int (2 : Int32)), (.ref a1)])) rfl rfl (hb hby d2_10)) ?_
      show own_Fin p e below s _ _ _ (T2.setTop (mkF m 11 #[.val (.ref a1), .val (.int p2), .val (.int (2 : Int32))] [(.int v2)]))
      refine own_Fin.step (fun _ => XS.iloadN X2.here hx rfl (hb hby d2_11) rfl) ?_
      show own_Fin p e below s _ _ _ (T2.setTop (mkF m 12 #[.val (.ref a1), .val (.int p2), .val (.int (2 : Int32))] [(.int p2), (.int v2)]))
      by_cases hc12_13 : v2 = p2
      ·
        refine own_Fin.step (fun _ => XS.icmpNo X2.here hx rfl (hb hby d2_12) rfl (XT.ii_ne_f hc12_13)) ?_
        show own_Fin p e below s _ _ _ (T2.setTop (mkF m 15 #[.val (.ref a1), .val (.int p2), .val (.int (2 : Int32))] []))
        refine own_Fin.step (fun _ => XS.aloadN X2.here hx rfl (hb hby d2_15) rfl rfl) ?_
        show own_Fin p e below s _ _ _ (T2.setTop (mkF m 16 #[.val (.ref a1), .val (.int p2), .val (.int (2 : Int32))] [(.ref a1)]))
        refine own_Fin.step (fun _ => XS.iloadN X2.here hx rfl (hb hby d2_16) rfl) ?_
        show own_Fin p e below s _ _ _ (T2.setTop (mkF m 17 #[.val (.ref a1), .val (.int p2), .val (.int (2 : Int32))] [(.int (2 : Int32)), (.ref a1)]))
        refine own_Fin.step (fun _ => XT.dup2 X2.here hx rfl (hb hby d2_17) rfl rfl rfl) ?_
        show own_Fin p e below s _ _ _ (T2.setTop (mkF m 18 #[.val (.ref a1), .val (.int p2), .val (.int (2 : Int32))] [(.int (2 : Int32)), (.ref a1), (.int (2 : Int32)), (.ref a1)]))
        refine own_Fin.step (own_ldI X2 hx hZ e2 V2' (j := (2 : Int32)) (v := (.int v2)) ⟨by decide, by decide⟩ rfl (g := (mkF m 18 #[.val (.ref a1), .val (.int p2), .val (.int (2 : Int32))] [(.int (2 : Int32)), (.ref a1), (.int (2 : Int32)), (.ref a1)])) rfl rfl (hb hby d2_18)) ?_
        show own_Fin p e below s _ _ _ (T2.setTop (mkF m 19 #[.val (.ref a1), .val (.int p2), .val (.int (2 : Int32))] [(.int v2), (.int (2 : Int32)), (.ref a1)]))
        refine own_Fin.step (X2.ldcInt hx hown (mvT hZ (own_w hw 11 rfl)) (g := (mkF m 19 #[.val (.ref a1), .val (.int p2), .val (.int (2 : Int32))] [(.int v2), (.int (2 : Int32)), (.ref a1)])) rfl (hb hby d2_19)) ?_
        show own_Fin p e below s _ _ _ (T2.setTop (mkF m 21 #[.val (.ref a1), .val (.int p2), .val (.int (2 : Int32))] [(.int (-2147483648 : Int32)), (.int v2), (.int (2 : Int32)), (.ref a1)]))
        refine own_Fin.step (fun _ => XS.ior X2.here hx rfl (hb hby d2_21) rfl) ?_
        show own_Fin p e below s _ _ _ (T2.setTop (mkF m 22 #[.val (.ref a1), .val (.int p2), .val (.int (2 : Int32))] [(.int (v2 ||| (-2147483648 : Int32))), (.int (2 : Int32)), (.ref a1)]))
        obtain ⟨T14, h14, X14, e14, V14, W14, st14⟩ := own_stI X2 hx hZ e2 V2' (j := (2 : Int32)) ⟨by decide, by decide⟩ (2) rfl (Nat.le_of_ble_eq_true rfl) (g := (mkF m 22 #[.val (.ref a1), .val (.int p2), .val (.int (2 : Int32))] [(.int (v2 ||| (-2147483648 : Int32))), (.int (2 : Int32)), (.ref a1)])) rfl rfl (hb hby d2_22)
        have V14' : Arv Z h14 a1 k .int (3 : Int32) [(.int (v0 ||| (-2147483648 : Int32))), (.int v1), (.int (v2 ||| (-2147483648 : Int32)))] (.int (0 : Int32)) := V14
        have N14 := Fr.snoc X14 N2 g1
        have Z14 : n0 ≤ h14.size := Nat.le_trans Z2 (Nat.le_of_eq W14.size.symm)
        have K16 : Keep h0 h14 [a1] := K4.wr W14 (Or.inl (List.mem_of_getElem? (i := 0) rfl))
        refine own_Fin.step st14 ?_
        show own_Fin p e below s _ _ _ (T14.setTop (mkF m 23 #[.val (.ref a1), .val (.int p2), .val (.int (2 : Int32))] []))
        refine own_Fin.step (fun _ => XS.iinc X14.here hx rfl (hb hby d2_23) rfl (l' := #[.val (.ref a1), .val (.int p2), .val (.int (3 : Int32))]) rfl) ?_
        show own_Fin p e below s _ _ _ (T14.setTop (mkF m 26 #[.val (.ref a1), .val (.int p2), .val (.int (3 : Int32))] []))
        refine own_Fin.step (fun _ => XS.goto X14.here hx rfl (pc0 := 26) (pc' := 2) rfl (hb hby d2_26) (by decide) (by decide)) ?_
        show own_Fin p e below s _ _ _ (T14.setTop (mkF m 2 #[.val (.ref a1), .val (.int p2), .val (.int (3 : Int32))] []))
        refine own_Fin.step (fun _ => XS.iloadN X14.here hx rfl (hb hby d2_2) rfl) ?_
        show own_Fin p e below s _ _ _ (T14.setTop (mkF m 3 #[.val (.ref a1), .val (.int p2), .val (.int (3 : Int32))] [(.int (3 : Int32))]))
        refine own_Fin.step (fun _ => XS.aloadN X14.here hx rfl (hb hby d2_3) rfl rfl) ?_
        show own_Fin p e below s _ _ _ (T14.setTop (mkF m 4 #[.val (.ref a1), .val (.int p2), .val (.int (3 : Int32))] [(.ref a1), (.int (3 : Int32))]))
        refine own_Fin.step (own_len X14 hx hZ e14 V14' (g := (mkF m 4 #[.val (.ref a1), .val (.int p2), .val (.int (3 : Int32))] [(.ref a1), (.int (3 : Int32))])) rfl rfl (hb hby d2_4)) ?_
        show own_Fin p e below s _ _ _ (T14.setTop (mkF m 5 #[.val (.ref a1), .val (.int p2), .val (.int (3 : Int32))] [(.int (3 : Int32)), (.int (3 : Int32))]))
        refine own_Fin.step (fun _ => XS.icmpYes X14.here hx rfl (pc0 := 5) (pc' := 29) rfl (hb hby d2_5) rfl (XT.ii_ge_t (by decide : ¬ ((3 : Int32) < (3 : Int32)))) (by decide) (by decide)) ?_
        show own_Fin p e below s _ _ _ (T14.setTop (mkF m 29 #[.val (.ref a1), .val (.int p2), .val (.int (3 : Int32))] []))
        refine own_Fin.step (fun _ => XS.aloadN X14.here hx rfl (hb hby d2_29) rfl rfl) ?_
        show own_Fin p e below s _ _ _ (T14.setTop (mkF m 30 #[.val (.ref a1), .val (.int p2), .val (.int (3 : Int32))] [(.ref a1)]))
        exact own_retR X14 hx hlk rfl hret rfl (hb hby d2_30) (by rw [e14]; exact ⟨rfl, N14, K16, by rw [show own_mark p2 v0 = (v0 ||| (-2147483648 : Int32)) from if_pos hc12_1, show own_mark p2 v1 = v1 from if_neg hc12_5, show own_mark p2 v2 = (v2 ||| (-2147483648 : Int32)) from if_pos hc12_13]; exact V14'⟩) (by decide) (by decide)
      ·
        refine own_Fin.step (fun _ => XS.icmpYes X2.here hx rfl (pc0 := 12) (pc' := 23) rfl (hb hby d2_12) rfl (XT.ii_ne_t hc12_13) (by decide) (by decide)) ?_
        show own_Fin p e below s _ _ _ (T2.setTop (mkF m 23 #[.val (.ref a1), .val (.int p2), .val (.int (2 : Int32))] []))
        refine own_Fin.step (fun _ => XS.iinc X2.here hx rfl (hb hby d2_23) rfl (l' := #[.val (.ref a1), .val (.int p2), .val (.int (3 : Int32))]) rfl) ?_
        show own_Fin p e below s _ _ _ (T2.setTop (mkF m 26 #[.val (.ref a1), .val (.int p2), .val (.int (3 : Int32))] []))
        refine own_Fin.step (fun _ => XS.goto X2.here hx rfl (pc0 := 26) (pc' := 2) rfl (hb hby d2_26) (by decide) (by decide)) ?_
        show own_Fin p e below s _ _ _ (T2.setTop (mkF m 2 #[.val (.ref a1), .val (.int p2), .val (.int (3 : Int32))] []))
        refine own_Fin.step (fun _ => XS.iloadN X2.here hx rfl (hb hby d2_2) rfl) ?_
        show own_Fin p e below s _ _ _ (T2.setTop (mkF m 3 #[.val (.ref a1), .val (.int p2), .val (.int (3 : Int32))] [(.int (3 : Int32))]))
        refine own_Fin.step (fun _ => XS.aloadN X2.here hx rfl (hb hby d2_3) rfl rfl) ?_
        show own_Fin p e below s _ _ _ (T2.setTop (mkF m 4 #[.val (.ref a1), .val (.int p2), .val (.int (3 : Int32))] [(.ref a1), (.int (3 : Int32))]))
        refine own_Fin.step (own_len X2 hx hZ e2 V2' (g := (mkF m 4 #[.val (.ref a1), .val (.int p2), .val (.int (3 : Int32))] [(.ref a1), (.int (3 : Int32))])) rfl rfl (hb hby d2_4)) ?_
        show own_Fin p e below s _ _ _ (T2.setTop (mkF m 5 #[.val (.ref a1), .val (.int p2), .val (.int (3 : Int32))] [(.int (3 : Int32)), (.int (3 : Int32))]))
        refine own_Fin.step (fun _ => XS.icmpYes X2.here hx rfl (pc0 := 5) (pc' := 29) rfl (hb hby d2_5) rfl (XT.ii_ge_t (by decide : ¬ ((3 : Int32) < (3 : Int32)))) (by decide) (by decide)) ?_
        show own_Fin p e below s _ _ _ (T2.setTop (mkF m 29 #[.val (.ref a1), .val (.int p2), .val (.int (3 : Int32))] []))
        refine own_Fin.step (fun _ => XS.aloadN X2.here hx rfl (hb hby d2_29) rfl rfl) ?_
        show own_Fin p e below s _ _ _ (T2.setTop (mkF m 30 #[.val (.ref a1), .val (.int p2), .val (.int (3 : Int32))] [(.ref a1)]))
        exact own_retR X2 hx hlk rfl hret rfl (hb hby d2_30) (by rw [e2]; exact ⟨rfl, N2, K4, by rw [show own_mark p2 v0 = (v0 ||| (-2147483648 : Int32)) from if_pos hc12_1, show own_mark p2 v1 = v1 from if_neg hc12_5, show own_mark p2 v2 = v2 from if_neg hc12_13]; exact V2'⟩) (by decide) (by decide)
  ·
    refine own_Fin.step (fun _ => XS.icmpYes X0.here hx rfl (pc0 := 12) (pc' := 23) rfl (hb hby d2_12) rfl (XT.ii_ne_t hc12_1) (by decide) (by decide)) ?_
    show own_Fin p e below s _ _ _ (s₁.setTop (mkF m 23 #[.val (.ref a1), .val (.int p2), .val (.int (0 : Int32))] []))
    refine own_Fin.step (fun _ => XS.iinc X0.here hx rfl (hb hby d2_23) rfl (l' := #[.val (.ref a1), .val (.int p2), .val (.int (1 : Int32))]) rfl) ?_
    show own_Fin p e below s _ _ _ (s₁.setTop (mkF m 26 #[.val (.ref a1), .val (.int p2), .val (.int (1 : Int32))] []))
    refine own_Fin.step (fun _ => XS.goto X0.here hx rfl (pc0 := 26) (pc' := 2) rfl (hb hby d2_26) (by decide) (by decide)) ?_
    show own_Fin p e below s _ _ _ (s₁.setTop (mkF m 2 #[.val (.ref a1), .val (.int p2), .val (.int (1 : Int32))] []))
    refine own_Fin.step (fun _ => XS.iloadN X0.here hx rfl (hb hby d2_2) rfl) ?_
    show own_Fin p e below s _ _ _ (s₁.setTop (mkF m 3 #[.val (.ref a1), .val (.int p2), .val (.int (1 : Int32))] [(.int (1 : Int32))]))
    refine own_Fin.step (fun _ => XS.aloadN X0.here hx rfl (hb hby d2_3) rfl rfl) ?_
    show own_Fin p e below s _ _ _ (s₁.setTop (mkF m 4 #[.val (.ref a1), .val (.int p2), .val (.int (1 : Int32))] [(.ref a1), (.int (1 : Int32))]))
    refine own_Fin.step (own_len X0 hx hZ e0 F (g := (mkF m 4 #[.val (.ref a1), .val (.int p2), .val (.int (1 : Int32))] [(.ref a1), (.int (1 : Int32))])) rfl rfl (hb hby d2_4)) ?_
    show own_Fin p e below s _ _ _ (s₁.setTop (mkF m 5 #[.val (.ref a1), .val (.int p2), .val (.int (1 : Int32))] [(.int (3 : Int32)), (.int (1 : Int32))]))
    refine own_Fin.step (fun _ => XS.icmpNo X0.here hx rfl (hb hby d2_5) rfl (XT.ii_ge_f (by decide : (1 : Int32) < (3 : Int32)))) ?_
    show own_Fin p e below s _ _ _ (s₁.setTop (mkF m 8 #[.val (.ref a1), .val (.int p2), .val (.int (1 : Int32))] []))
    refine own_Fin.step (fun _ => XS.aloadN X0.here hx rfl (hb hby d2_8) rfl rfl) ?_
    show own_Fin p e below s _ _ _ (s₁.setTop (mkF m 9 #[.val (.ref a1), .val (.int p2), .val (.int (1 : Int32))] [(.ref a1)]))
    refine own_Fin.step (fun _ => XS.iloadN X0.here hx rfl (hb hby d2_9) rfl) ?_
    show own_Fin p e below s _ _ _ (s₁.setTop (mkF m 10 #[.val (.ref a1), .val (.int p2), .val (.int (1 : Int32))] [(.int (1 : Int32)), (.ref a1)]))
    refine own_Fin.step (own_ldI X0 hx hZ e0 F (j := (1 : Int32)) (v := (.int v1)) ⟨by decide, by decide⟩ rfl (g := (mkF m 10 #[.val (.ref a1), .val (.int p2), .val (.int (1 : Int32))] [(.int (1 : Int32)), (.ref a1)])) rfl rfl (hb hby d2_10)) ?_
    show own_Fin p e below s _ _ _ (s₁.setTop (mkF m 11 #[.val (.ref a1), .val (.int p2), .val (.int (1 : Int32))] [(.int v1)]))
    refine own_Fin.step (fun _ => XS.iloadN X0.here hx rfl (hb hby d2_11) rfl) ?_
    show own_Fin p e below s _ _ _ (s₁.setTop (mkF m 12 #[.val (.ref a1), .val (.int p2), .val (.int (1 : Int32))] [(.int p2), (.int v1)]))
    by_cases hc12_17 : v1 = p2
    ·
      refine own_Fin.step (fun _ => XS.icmpNo X0.here hx rfl (hb hby d2_12) rfl (XT.ii_ne_f hc12_17)) ?_
      show own_Fin p e below s _ _ _ (s₁.setTop (mkF m 15 #[.val (.ref a1), .val (.int p2), .val (.int (1 : Int32))] []))
      refine own_Fin.step (fun _ => XS.aloadN X0.here hx rfl (hb hby d2_15) rfl rfl) ?_
      show own_Fin p e below s _ _ _ (s₁.setTop (mkF m 16 #[.val (.ref a1), .val (.int p2), .val (.int (1 : Int32))] [(.ref a1)]))
      refine own_Fin.step (fun _ => XS.iloadN X0.here hx rfl (hb hby d2_16) rfl) ?_
      show own_Fin p e below s _ _ _ (s₁.setTop (mkF m 17 #[.val (.ref a1), .val (.int p2), .val (.int (1 : Int32))] [(.int (1 : Int32)), (.ref a1)]))
      refine own_Fin.step (fun _ => XT.dup2 X0.here hx rfl (hb hby d2_17) rfl rfl rfl) ?_
      show own_Fin p e below s _ _ _ (s₁.setTop (mkF m 18 #[.val (.ref a1), .val (.int p2), .val (.int (1 : Int32))] [(.int (1 : Int32)), (.ref a1), (.int (1 : Int32)), (.ref a1)]))
      refine own_Fin.step (own_ldI X0 hx hZ e0 F (j := (1 : Int32)) (v := (.int v1)) ⟨by decide, by decide⟩ rfl (g := (mkF m 18 #[.val (.ref a1), .val (.int p2), .val (.int (1 : Int32))] [(.int (1 : Int32)), (.ref a1), (.int (1 : Int32)), (.ref a1)])) rfl rfl (hb hby d2_18)) ?_
      show own_Fin p e below s _ _ _ (s₁.setTop (mkF m 19 #[.val (.ref a1), .val (.int p2), .val (.int (1 : Int32))] [(.int v1), (.int (1 : Int32)), (.ref a1)]))
      refine own_Fin.step (X0.ldcInt hx hown (mvT hZ (own_w hw 11 rfl)) (g := (mkF m 19 #[.val (.ref a1), .val (.int p2), .val (.int (1 : Int32))] [(.int v1), (.int (1 : Int32)), (.ref a1)])) rfl (hb hby d2_19)) ?_
      show own_Fin p e below s _ _ _ (s₁.setTop (mkF m 21 #[.val (.ref a1), .val (.int p2), .val (.int (1 : Int32))] [(.int (-2147483648 : Int32)), (.int v1), (.int (1 : Int32)), (.ref a1)]))
      refine own_Fin.step (fun _ => XS.ior X0.here hx rfl (hb hby d2_21) rfl) ?_
      show own_Fin p e below s _ _ _ (s₁.setTop (mkF m 22 #[.val (.ref a1), .val (.int p2), .val (.int (1 : Int32))] [(.int (v1 ||| (-2147483648 : Int32))), (.int (1 : Int32)), (.ref a1)]))
      obtain ⟨T18, h18, X18, e18, V18, W18, st18⟩ := own_stI X0 hx hZ e0 F (j := (1 : Int32)) ⟨by decide, by decide⟩ (1) rfl (Nat.le_of_ble_eq_true rfl) (g := (mkF m 22 #[.val (.ref a1), .val (.int p2), .val (.int (1 : Int32))] [(.int (v1 ||| (-2147483648 : Int32))), (.int (1 : Int32)), (.ref a1)])) rfl rfl (hb hby d2_22)
      have V18' : Arv Z h18 a1 k .int (3 : Int32) [(.int v0), (.int (v1 ||| (-2147483648 : Int32))), (.int v2)] (.int (0 : Int32)) := V18
      have N18 := Fr.snoc X18 N0 g1
      have Z18 : n0 ≤ h18.size := Nat.le_trans Z0 (Nat.le_of_eq W18.size.symm)
      have K20 : Keep h0 h18 [a1] := (Keep.refl h0 [a1]).wr W18 (Or.inl (List.mem_of_getElem? (i := 0) rfl))
      refine own_Fin.step st18 ?_
      show own_Fin p e below s _ _ _ (T18.setTop (mkF m 23 #[.val (.ref a1), .val (.int p2), .val (.int (1 : Int32))] []))
      refine own_Fin.step (fun _ => XS.iinc X18.here hx rfl (hb hby d2_23) rfl (l' := #[.val (.ref a1), .val (.int p2), .val (.int (2 : Int32))]) rfl) ?_
      show own_Fin p e below s _ _ _ (T18.setTop (mkF m 26 #[.val (.ref a1), .val (.int p2), .val (.int (2 : Int32))] []))
      refine own_Fin.step (fun _ => XS.goto X18.here hx rfl (pc0 := 26) (pc' := 2) rfl (hb hby d2_26) (by decide) (by decide)) ?_
      show own_Fin p e below s _ _ _ (T18.setTop (mkF m 2 #[.val (.ref a1), .val (.int p2), .val (.int (2 : Int32))] []))
      refine own_Fin.step (fun _ => XS.iloadN X18.here hx rfl (hb hby d2_2) rfl) ?_
      show own_Fin p e below s _ _ _ (T18.setTop (mkF m 3 #[.val (.ref a1), .val (.int p2), .val (.int (2 : Int32))] [(.int (2 : Int32))]))
      refine own_Fin.step (fun _ => XS.aloadN X18.here hx rfl (hb hby d2_3) rfl rfl) ?_
      show own_Fin p e below s _ _ _ (T18.setTop (mkF m 4 #[.val (.ref a1), .val (.int p2), .val (.int (2 : Int32))] [(.ref a1), (.int (2 : Int32))]))
      refine own_Fin.step (own_len X18 hx hZ e18 V18' (g := (mkF m 4 #[.val (.ref a1), .val (.int p2), .val (.int (2 : Int32))] [(.ref a1), (.int (2 : Int32))])) rfl rfl (hb hby d2_4)) ?_
      show own_Fin p e below s _ _ _ (T18.setTop (mkF m 5 #[.val (.ref a1), .val (.int p2), .val (.int (2 : Int32))] [(.int (3 : Int32)), (.int (2 : Int32))]))
      refine own_Fin.step (fun _ => XS.icmpNo X18.here hx rfl (hb hby d2_5) rfl (XT.ii_ge_f (by decide : (2 : Int32) < (3 : Int32)))) ?_
      show own_Fin p e below s _ _ _ (T18.setTop (mkF m 8 #[.val (.ref a1), .val (.int p2), .val (.int (2 : Int32))] []))
      refine own_Fin.step (fun _ => XS.aloadN X18.here hx rfl (hb hby d2_8) rfl rfl) ?_
      show own_Fin p e below s _ _ _ (T18.setTop (mkF m 9 #[.val (.ref a1), .val (.int p2), .val (.int (2 : Int32))] [(.ref a1)]))
      refine own_Fin.step (fun _ => XS.iloadN X18.here hx rfl (hb hby d2_9) rfl) ?_
      show own_Fin p e below s _ _ _ (T18.setTop (mkF m 10 #[.val (.ref a1), .val (.int p2), .val (.int (2 : Int32))] [(.int (2 : Int32)), (.ref a1)]))
      refine own_Fin.step (own_ldI X18 hx hZ e18 V18' (j := (2 : Int32)) (v := (.int v2)) ⟨by decide, by decide⟩ rfl (g := (mkF m 10 #[.val (.ref a1), .val (.int p2), .val (.int (2 : Int32))] [(.int (2 : Int32)), (.ref a1)])) rfl rfl (hb hby d2_10)) ?_
      show own_Fin p e below s _ _ _ (T18.setTop (mkF m 11 #[.val (.ref a1), .val (.int p2), .val (.int (2 : Int32))] [(.int v2)]))
      refine own_Fin.step (fun _ => XS.iloadN X18.here hx rfl (hb hby d2_11) rfl) ?_
      show own_Fin p e below s _ _ _ (T18.setTop (mkF m 12 #[.val (.ref a1), .val (.int p2), .val (.int (2 : Int32))] [(.int p2), (.int v2)]))
      by_cases hc12_21 : v2 = p2
      ·
        refine own_Fin.step (fun _ => XS.icmpNo X18.here hx rfl (hb hby d2_12) rfl (XT.ii_ne_f hc12_21)) ?_
        show own_Fin p e below s _ _ _ (T18.setTop (mkF m 15 #[.val (.ref a1), .val (.int p2), .val (.int (2 : Int32))] []))
        refine own_Fin.step (fun _ => XS.aloadN X18.here hx rfl (hb hby d2_15) rfl rfl) ?_
        show own_Fin p e below s _ _ _ (T18.setTop (mkF m 16 #[.val (.ref a1), .val (.int p2), .val (.int (2 : Int32))] [(.ref a1)]))
        refine own_Fin.step (fun _ => XS.iloadN X18.here hx rfl (hb hby d2_16) rfl) ?_
        show own_Fin p e below s _ _ _ (T18.setTop (mkF m 17 #[.val (.ref a1), .val (.int p2), .val (.int (2 : Int32))] [(.int (2 : Int32)), (.ref a1)]))
        refine own_Fin.step (fun _ => XT.dup2 X18.here hx rfl (hb hby d2_17) rfl rfl rfl) ?_
        show own_Fin p e below s _ _ _ (T18.setTop (mkF m 18 #[.val (.ref a1), .val (.int p2), .val (.int (2 : Int32))] [(.int (2 : Int32)), (.ref a1), (.int (2 : Int32)), (.ref a1)]))
        refine own_Fin.step (own_ldI X18 hx hZ e18 V18' (j := (2 : Int32)) (v := (.int v2)) ⟨by decide, by decide⟩ rfl (g := (mkF m 18 #[.val (.ref a1), .val (.int p2), .val (.int (2 : Int32))] [(.int (2 : Int32)), (.ref a1), (.int (2 : Int32)), (.ref a1)])) rfl rfl (hb hby d2_18)) ?_
        show own_Fin p e below s _ _ _ (T18.setTop (mkF m 19 #[.val (.ref a1), .val (.int p2), .val (.int (2 : Int32))] [(.int v2), (.int (2 : Int32)), (.ref a1)]))
        refine own_Fin.step (X18.ldcInt hx hown (mvT hZ (own_w hw 11 rfl)) (g := (mkF m 19 #[.val (.ref a1), .val (.int p2), .val (.int (2 : Int32))] [(.int v2), (.int (2 : Int32)), (.ref a1)])) rfl (hb hby d2_19)) ?_
        show own_Fin p e below s _ _ _ (T18.setTop (mkF m 21 #[.val (.ref a1), .val (.int p2), .val (.int (2 : Int32))] [(.int (-2147483648 : Int32)), (.int v2), (.int (2 : Int32)), (.ref a1)]))
        refine own_Fin.step (fun _ => XS.ior X18.here hx rfl (hb hby d2_21) rfl) ?_
        show own_Fin p e below s _ _ _ (T18.setTop (mkF m 22 #[.val (.ref a1), .val (.int p2), .val (.int (2 : Int32))] [(.int (v2 ||| (-2147483648 : Int32))), (.int (2 : Int32)), (.ref a1)]))
        obtain ⟨T22, h22, X22, e22, V22, W22, st22⟩ := own_stI X18 hx hZ e18 V18' (j := (2 : Int32)) ⟨by decide, by decide⟩ (2) rfl (Nat.le_of_ble_eq_true rfl) (g := (mkF m 22 #[.val (.ref a1), .val (.int p2), .val (.int (2 : Int32))] [(.int (v2 ||| (-2147483648 : Int32))), (.int (2 : Int32)), (.ref a1)])) rfl rfl (hb hby d2_22)
        have V22' : Arv Z h22 a1 k .int (3 : Int32) [(.int v0), (.int (v1 ||| (-2147483648 : Int32))), (.int (v2 ||| (-2147483648 : Int32)))] (.int (0 : Int32)) := V22
        have N22 := Fr.snoc X22 N18 g1
        have Z22 : n0 ≤ h22.size := Nat.le_trans Z18 (Nat.le_of_eq W22.size.symm)
        have K24 : Keep h0 h22 [a1] := K20.wr W22 (Or.inl (List.mem_of_getElem? (i := 0) rfl))
        refine own_Fin.step st22 ?_
        show own_Fin p e below s _ _ _ (T22.setTop (mkF m 23 #[.val (.ref a1), .val (.int p2), .val (.int (2 : Int32))] []))
        refine own_Fin.step (fun _ => XS.iinc X22.here hx rfl (hb hby d2_23) rfl (l' := #[.val (.ref a1), .val (.int p2), .val (.int (3 : Int32))]) rfl) ?_
        show own_Fin p e below s _ _ _ (T22.setTop (mkF m 26 #[.val (.ref a1), .val (.int p2), .val (.int (3 : Int32))] []))
        refine own_Fin.step (fun _ => XS.goto X22.here hx rfl (pc0 := 26) (pc' := 2) rfl (hb hby d2_26) (by decide) (by decide)) ?_
        show own_Fin p e below s _ _ _ (T22.setTop (mkF m 2 #[.val (.ref a1), .val (.int p2), .val (.int (3 : Int32))] []))
        refine own_Fin.step (fun _ => XS.iloadN X22.here hx rfl (hb hby d2_2) rfl) ?_
        show own_Fin p e below s _ _ _ (T22.setTop (mkF m 3 #[.val (.ref a1), .val (.int p2), .val (.int (3 : Int32))] [(.int (3 : Int32))]))
        refine own_Fin.step (fun _ => XS.aloadN X22.here hx rfl (hb hby d2_3) rfl rfl) ?_
        show own_Fin p e below s _ _ _ (T22.setTop (mkF m 4 #[.val (.ref a1), .val (.int p2), .val (.int (3 : Int32))] [(.ref a1), (.int (3 : Int32))]))
        refine own_Fin.step (own_len X22 hx hZ e22 V22' (g := (mkF m 4 #[.val (.ref a1), .val (.int p2), .val (.int (3 : Int32))] [(.ref a1), (.int (3 : Int32))])) rfl rfl (hb hby d2_4)) ?_
        show own_Fin p e below s _ _ _ (T22.setTop (mkF m 5 #[.val (.ref a1), .val (.int p2), .val (.int (3 : Int32))] [(.int (3 : Int32)), (.int (3 : Int32))]))
        refine own_Fin.step (fun _ => XS.icmpYes X22.here hx rfl (pc0 := 5) (pc' := 29) rfl (hb hby d2_5) rfl (XT.ii_ge_t (by decide : ¬ ((3 : Int32) < (3 : Int32)))) (by decide) (by decide)) ?_
        show own_Fin p e below s _ _ _ (T22.setTop (mkF m 29 #[.val (.ref a1), .val (.int p2), .val (.int (3 : Int32))] []))
        refine own_Fin.step (fun _ => XS.aloadN X22.here hx rfl (hb hby d2_29) rfl rfl) ?_
        show own_Fin p e below s _ _ _ (T22.setTop (mkF m 30 #[.val (.ref a1), .val (.int p2), .val (.int (3 : Int32))] [(.ref a1)]))
        exact own_retR X22 hx hlk rfl hret rfl (hb hby d2_30) (by rw [e22]; exact ⟨rfl, N22, K24, by rw [show own_mark p2 v0 = v0 from if_neg hc12_1, show own_mark p2 v1 = (v1 ||| (-2147483648 : Int32)) from if_pos hc12_17, show own_mark p2 v2 = (v2 ||| (-2147483648 : Int32)) from if_pos hc12_21]; exact V22'⟩) (by decide) (by decide)
      ·
        refine own_Fin.step (fun _ => XS.icmpYes X18.here hx rfl (pc0 := 12) (pc' := 23) rfl (hb hby d2_12) rfl (XT.ii_ne_t hc12_21) (by decide) (by decide)) ?_
        show own_Fin p e below s _ _ _ (T18.setTop (mkF m 23 #[.val (.ref a1), .val (.int p2), .val (.int (2 : Int32))] []))
        refine own_Fin.step (fun _ => XS.iinc X18.here hx rfl (hb hby d2_23) rfl (l' := #[.val (.ref a1), .val (.int p2), .val (.int (3 : Int32))]) rfl) ?_
        show own_Fin p e below s _ _ _ (T18.setTop (mkF m 26 #[.val (.ref a1), .val (.int p2), .val (.int (3 : Int32))] []))
        refine own_Fin.step (fun _ => XS.goto X18.here hx rfl (pc0 := 26) (pc' := 2) rfl (hb hby d2_26) (by decide) (by decide)) ?_
        show own_Fin p e below s _ _ _ (T18.setTop (mkF m 2 #[.val (.ref a1), .val (.int p2), .val (.int (3 : Int32))] []))
        refine own_Fin.step (fun _ => XS.iloadN X18.here hx rfl (hb hby d2_2) rfl) ?_
        show own_Fin p e below s _ _ _ (T18.setTop (mkF m 3 #[.val (.ref a1), .val (.int p2), .val (.int (3 : Int32))] [(.int (3 : Int32))]))
        refine own_Fin.step (fun _ => XS.aloadN X18.here hx rfl (hb hby d2_3) rfl rfl) ?_
        show own_Fin p e below s _ _ _ (T18.setTop (mkF m 4 #[.val (.ref a1), .val (.int p2), .val (.int (3 : Int32))] [(.ref a1), (.int (3 : Int32))]))
        refine own_Fin.step (own_len X18 hx hZ e18 V18' (g := (mkF m 4 #[.val (.ref a1), .val (.int p2), .val (.int (3 : Int32))] [(.ref a1), (.int (3 : Int32))])) rfl rfl (hb hby d2_4)) ?_
        show own_Fin p e below s _ _ _ (T18.setTop (mkF m 5 #[.val (.ref a1), .val (.int p2), .val (.int (3 : Int32))] [(.int (3 : Int32)), (.int (3 : Int32))]))
        refine own_Fin.step (fun _ => XS.icmpYes X18.here hx rfl (pc0 := 5) (pc' := 29) rfl (hb hby d2_5) rfl (XT.ii_ge_t (by decide : ¬ ((3 : Int32) < (3 : Int32)))) (by decide) (by decide)) ?_
        show own_Fin p e below s _ _ _ (T18.setTop (mkF m 29 #[.val (.ref a1), .val (.int p2), .val (.int (3 : Int32))] []))
        refine own_Fin.step (fun _ => XS.aloadN X18.here hx rfl (hb hby d2_29) rfl rfl) ?_
        show own_Fin p e below s _ _ _ (T18.setTop (mkF m 30 #[.val (.ref a1), .val (.int p2), .val (.int (3 : Int32))] [(.ref a1)]))
        exact own_retR X18 hx hlk rfl hret rfl (hb hby d2_30) (by rw [e18]; exact ⟨rfl, N18, K20, by rw [show own_mark p2 v0 = v0 from if_neg hc12_1, show own_mark p2 v1 = (v1 ||| (-2147483648 : Int32)) from if_pos hc12_17, show own_mark p2 v2 = v2 from if_neg hc12_21]; exact V18'⟩) (by decide) (by decide)
    ·
      refine own_Fin.step (fun _ => XS.icmpYes X0.here hx rfl (pc0 := 12) (pc' := 23) rfl (hb hby d2_12) rfl (XT.ii_ne_t hc12_17) (by decide) (by decide)) ?_
      show own_Fin p e below s _ _ _ (s₁.setTop (mkF m 23 #[.val (.ref a1), .val (.int p2), .val (.int (1 : Int32))] []))
      refine own_Fin.step (fun _ => XS.iinc X0.here hx rfl (hb hby d2_23) rfl (l' := #[.val (.ref a1), .val (.int p2), .val (.int (2 : Int32))]) rfl) ?_
      show own_Fin p e below s _ _ _ (s₁.setTop (mkF m 26 #[.val (.ref a1), .val (.int p2), .val (.int (2 : Int32))] []))
      refine own_Fin.step (fun _ => XS.goto X0.here hx rfl (pc0 := 26) (pc' := 2) rfl (hb hby d2_26) (by decide) (by decide)) ?_
      show own_Fin p e below s _ _ _ (s₁.setTop (mkF m 2 #[.val (.ref a1), .val (.int p2), .val (.int (2 : Int32))] []))
      refine own_Fin.step (fun _ => XS.iloadN X0.here hx rfl (hb hby d2_2) rfl) ?_
      show own_Fin p e below s _ _ _ (s₁.setTop (mkF m 3 #[.val (.ref a1), .val (.int p2), .val (.int (2 : Int32))] [(.int (2 : Int32))]))
      refine own_Fin.step (fun _ => XS.aloadN X0.here hx rfl (hb hby d2_3) rfl rfl) ?_
      show own_Fin p e below s _ _ _ (s₁.setTop (mkF m 4 #[.val (.ref a1), .val (.int p2), .val (.int (2 : Int32))] [(.ref a1), (.int (2 : Int32))]))
      refine own_Fin.step (own_len X0 hx hZ e0 F (g := (mkF m 4 #[.val (.ref a1), .val (.int p2), .val (.int (2 : Int32))] [(.ref a1), (.int (2 : Int32))])) rfl rfl (hb hby d2_4)) ?_
      show own_Fin p e below s _ _ _ (s₁.setTop (mkF m 5 #[.val (.ref a1), .val (.int p2), .val (.int (2 : Int32))] [(.int (3 : Int32)), (.int (2 : Int32))]))
      refine own_Fin.step (fun _ => XS.icmpNo X0.here hx rfl (hb hby d2_5) rfl (XT.ii_ge_f (by decide : (2 : Int32) < (3 : Int32)))) ?_
      show own_Fin p e below s _ _ _ (s₁.setTop (mkF m 8 #[.val (.ref a1), .val (.int p2), .val (.int (2 : Int32))] []))
      refine own_Fin.step (fun _ => XS.aloadN X0.here hx rfl (hb hby d2_8) rfl rfl) ?_
      show own_Fin p e below s _ _ _ (s₁.setTop (mkF m 9 #[.val (.ref a1), .val (.int p2), .val (.int (2 : Int32))] [(.ref a1)]))
      refine own_Fin.step (fun _ => XS.iloadN X0.here hx rfl (hb hby d2_9) rfl) ?_
      show own_Fin p e below s _ _ _ (s₁.setTop (mkF m 10 #[.val (.ref a1), .val (.int p2), .val (.int (2 : Int32))] [(.int (2 : Int32)), (.ref a1)]))
      refine own_Fin.step (own_ldI X0 hx hZ e0 F (j := (2 : Int32)) (v := (.int v2)) ⟨by decide, by decide⟩ rfl (g := (mkF m 10 #[.val (.ref a1), .val (.int p2), .val (.int (2 : Int32))] [(.int (2 : Int32)), (.ref a1)])) rfl rfl (hb hby d2_10)) ?_
      show own_Fin p e below s _ _ _ (s₁.setTop (mkF m 11 #[.val (.ref a1), .val (.int p2), .val (.int (2 : Int32))] [(.int v2)]))
      refine own_Fin.step (fun _ => XS.iloadN X0.here hx rfl (hb hby d2_11) rfl) ?_
      show own_Fin p e below s _ _ _ (s₁.setTop (mkF m 12 #[.val (.ref a1), .val (.int p2), .val (.int (2 : Int32))] [(.int p2), (.int v2)]))
      by_cases hc12_25 : v2 = p2
      ·
        refine own_Fin.step (fun _ => XS.icmpNo X0.here hx rfl (hb hby d2_12) rfl (XT.ii_ne_f hc12_25)) ?_
        show own_Fin p e below s _ _ _ (s₁.setTop (mkF m 15 #[.val (.ref a1), .val (.int p2), .val (.int (2 : Int32))] []))
        refine own_Fin.step (fun _ => XS.aloadN X0.here hx rfl (hb hby d2_15) rfl rfl) ?_
        show own_Fin p e below s _ _ _ (s₁.setTop (mkF m 16 #[.val (.ref a1), .val (.int p2), .val (.int (2 : Int32))] [(.ref a1)]))
        refine own_Fin.step (fun _ => XS.iloadN X0.here hx rfl (hb hby d2_16) rfl) ?_
        show own_Fin p e below s _ _ _ (s₁.setTop (mkF m 17 #[.val (.ref a1), .val (.int p2), .val (.int (2 : Int32))] [(.int (2 : Int32)), (.ref a1)]))
        refine own_Fin.step (fun _ => XT.dup2 X0.here hx rfl (hb hby d2_17) rfl rfl rfl) ?_
        show own_Fin p e below s _ _ _ (s₁.setTop (mkF m 18 #[.val (.ref a1), .val (.int p2), .val (.int (2 : Int32))] [(.int (2 : Int32)), (.ref a1), (.int (2 : Int32)), (.ref a1)]))
        refine own_Fin.step (own_ldI X0 hx hZ e0 F (j := (2 : Int32)) (v := (.int v2)) ⟨by decide, by decide⟩ rfl (g := (mkF m 18 #[.val (.ref a1), .val (.int p2), .val (.int (2 : Int32))] [(.int (2 : Int32)), (.ref a1), (.int (2 : Int32)), (.ref a1)])) rfl rfl (hb hby d2_18)) ?_
        show own_Fin p e below s _ _ _ (s₁.setTop (mkF m 19 #[.val (.ref a1), .val (.int p2), .val (.int (2 : Int32))] [(.int v2), (.int (2 : Int32)), (.ref a1)]))
        refine own_Fin.step (X0.ldcInt hx hown (mvT hZ (own_w hw 11 rfl)) (g := (mkF m 19 #[.val (.ref a1), .val (.int p2), .val (.int (2 : Int32))] [(.int v2), (.int (2 : Int32)), (.ref a1)])) rfl (hb hby d2_19)) ?_
        show own_Fin p e below s _ _ _ (s₁.setTop (mkF m 21 #[.val (.ref a1), .val (.int p2), .val (.int (2 : Int32))] [(.int (-2147483648 : Int32)), (.int v2), (.int (2 : Int32)), (.ref a1)]))
        refine own_Fin.step (fun _ => XS.ior X0.here hx rfl (hb hby d2_21) rfl) ?_
        show own_Fin p e below s _ _ _ (s₁.setTop (mkF m 22 #[.val (.ref a1), .val (.int p2), .val (.int (2 : Int32))] [(.int (v2 ||| (-2147483648 : Int32))), (.int (2 : Int32)), (.ref a1)]))
        obtain ⟨T26, h26, X26, e26, V26, W26, st26⟩ := own_stI X0 hx hZ e0 F (j := (2 : Int32)) ⟨by decide, by decide⟩ (2) rfl (Nat.le_of_ble_eq_true rfl) (g := (mkF m 22 #[.val (.ref a1), .val (.int p2), .val (.int (2 : Int32))] [(.int (v2 ||| (-2147483648 : Int32))), (.int (2 : Int32)), (.ref a1)])) rfl rfl (hb hby d2_22)
        have V26' : Arv Z h26 a1 k .int (3 : Int32) [(.int v0), (.int v1), (.int (v2 ||| (-2147483648 : Int32)))] (.int (0 : Int32)) := V26
        have N26 := Fr.snoc X26 N0 g1
        have Z26 : n0 ≤ h26.size := Nat.le_trans Z0 (Nat.le_of_eq W26.size.symm)
        have K28 : Keep h0 h26 [a1] := (Keep.refl h0 [a1]).wr W26 (Or.inl (List.mem_of_getElem? (i := 0) rfl))
        refine own_Fin.step st26 ?_
        show own_Fin p e below s _ _ _ (T26.setTop (mkF m 23 #[.val (.ref a1), .val (.int p2), .val (.int (2 : Int32))] []))
        refine own_Fin.step (fun _ => XS.iinc X26.here hx rfl (hb hby d2_23) rfl (l' := #[.val (.ref a1), .val (.int p2), .val (.int (3 : Int32))]) rfl) ?_
        show own_Fin p e below s _ _ _ (T26.setTop (mkF m 26 #[.val (.ref a1), .val (.int p2), .val (.int (3 : Int32))] []))
        refine own_Fin.step (fun _ => XS.goto X26.here hx rfl (pc0 := 26) (pc' := 2) rfl (hb hby d2_26) (by decide) (by decide)) ?_
        show own_Fin p e below s _ _ _ (T26.setTop (mkF m 2 #[.val (.ref a1), .val (.int p2), .val (.int (3 : Int32))] []))
        refine own_Fin.step (fun _ => XS.iloadN X26.here hx rfl (hb hby d2_2) rfl) ?_
        show own_Fin p e below s _ _ _ (T26.setTop (mkF m 3 #[.val (.ref a1), .val (.int p2), .val (.int (3 : Int32))] [(.int (3 : Int32))]))
        refine own_Fin.step (fun _ => XS.aloadN X26.here hx rfl (hb hby d2_3) rfl rfl) ?_
        show own_Fin p e below s _ _ _ (T26.setTop (mkF m 4 #[.val (.ref a1), .val (.int p2), .val (.int (3 : Int32))] [(.ref a1), (.int (3 : Int32))]))
        refine own_Fin.step (own_len X26 hx hZ e26 V26' (g := (mkF m 4 #[.val (.ref a1), .val (.int p2), .val (.int (3 : Int32))] [(.ref a1), (.int (3 : Int32))])) rfl rfl (hb hby d2_4)) ?_
        show own_Fin p e below s _ _ _ (T26.setTop (mkF m 5 #[.val (.ref a1), .val (.int p2), .val (.int (3 : Int32))] [(.int (3 : Int32)), (.int (3 : Int32))]))
        refine own_Fin.step (fun _ => XS.icmpYes X26.here hx rfl (pc0 := 5) (pc' := 29) rfl (hb hby d2_5) rfl (XT.ii_ge_t (by decide : ¬ ((3 : Int32) < (3 : Int32)))) (by decide) (by decide)) ?_
        show own_Fin p e below s _ _ _ (T26.setTop (mkF m 29 #[.val (.ref a1), .val (.int p2), .val (.int (3 : Int32))] []))
        refine own_Fin.step (fun _ => XS.aloadN X26.here hx rfl (hb hby d2_29) rfl rfl) ?_
        show own_Fin p e below s _ _ _ (T26.setTop (mkF m 30 #[.val (.ref a1), .val (.int p2), .val (.int (3 : Int32))] [(.ref a1)]))
        exact own_retR X26 hx hlk rfl hret rfl (hb hby d2_30) (by rw [e26]; exact ⟨rfl, N26, K28, by rw [show own_mark p2 v0 = v0 from if_neg hc12_1, show own_mark p2 v1 = v1 from if_neg hc12_17, show own_mark p2 v2 = (v2 ||| (-2147483648 : Int32)) from if_pos hc12_25]; exact V26'⟩) (by decide) (by decide)
      ·
        refine own_Fin.step (fun _ => XS.icmpYes X0.here hx rfl (pc0 := 12) (pc' := 23) rfl (hb hby d2_12) rfl (XT.ii_ne_t hc12_25) (by decide) (by decide)) ?_
        show own_Fin p e below s _ _ _ (s₁.setTop (mkF m 23 #[.val (.ref a1), .val (.int p2), .val (.int (2 : Int32))] []))
        refine own_Fin.step (fun _ => XS.iinc X0.here hx rfl (hb hby d2_23) rfl (l' := #[.val (.ref a1), .val (.int p2), .val (.int (3 : Int32))]) rfl) ?_
        show own_Fin p e below s _ _ _ (s₁.setTop (mkF m 26 #[.val (.ref a1), .val (.int p2), .val (.int (3 : Int32))] []))
        refine own_Fin.step (fun _ => XS.goto X0.here hx rfl (pc0 := 26) (pc' := 2) rfl (hb hby d2_26) (by decide) (by decide)) ?_
        show own_Fin p e below s _ _ _ (s₁.setTop (mkF m 2 #[.val (.ref a1), .val (.int p2), .val (.int (3 : Int32))] []))
        refine own_Fin.step (fun _ => XS.iloadN X0.here hx rfl (hb hby d2_2) rfl) ?_
        show own_Fin p e below s _ _ _ (s₁.setTop (mkF m 3 #[.val (.ref a1), .val (.int p2), .val (.int (3 : Int32))] [(.int (3 : Int32))]))
        refine own_Fin.step (fun _ => XS.aloadN X0.here hx rfl (hb hby d2_3) rfl rfl) ?_
        show own_Fin p e below s _ _ _ (s₁.setTop (mkF m 4 #[.val (.ref a1), .val (.int p2), .val (.int (3 : Int32))] [(.ref a1), (.int (3 : Int32))]))
        refine own_Fin.step (own_len X0 hx hZ e0 F (g := (mkF m 4 #[.val (.ref a1), .val (.int p2), .val (.int (3 : Int32))] [(.ref a1), (.int (3 : Int32))])) rfl rfl (hb hby d2_4)) ?_
        show own_Fin p e below s _ _ _ (s₁.setTop (mkF m 5 #[.val (.ref a1), .val (.int p2), .val (.int (3 : Int32))] [(.int (3 : Int32)), (.int (3 : Int32))]))
        refine own_Fin.step (fun _ => XS.icmpYes X0.here hx rfl (pc0 := 5) (pc' := 29) rfl (hb hby d2_5) rfl (XT.ii_ge_t (by decide : ¬ ((3 : Int32) < (3 : Int32)))) (by decide) (by decide)) ?_
        show own_Fin p e below s _ _ _ (s₁.setTop (mkF m 29 #[.val (.ref a1), .val (.int p2), .val (.int (3 : Int32))] []))
        refine own_Fin.step (fun _ => XS.aloadN X0.here hx rfl (hb hby d2_29) rfl rfl) ?_
        show own_Fin p e below s _ _ _ (s₁.setTop (mkF m 30 #[.val (.ref a1), .val (.int p2), .val (.int (3 : Int32))] [(.ref a1)]))
        exact own_retR X0 hx hlk rfl hret rfl (hb hby d2_30) (by rw [e0]; exact ⟨rfl, N0, (Keep.refl h0 [a1]), by rw [show own_mark p2 v0 = v0 from if_neg hc12_1, show own_mark p2 v1 = v1 from if_neg hc12_17, show own_mark p2 v2 = v2 from if_neg hc12_25]; exact F⟩) (by decide) (by decide)
theorem d3_0 : decode method_3_code 0 = .ok (.iload_n 1, 1) := by decide +kernel
theorem d3_1 : decode method_3_code 1 = .ok (.ldc 11, 2) := by decide +kernel
theorem d3_3 : decode method_3_code 3 = .ok (.iand, 1) := by decide +kernel
theorem d3_4 : decode method_3_code 4 = .ok (.iload_n 0, 1) := by decide +kernel
theorem d3_5 : decode method_3_code 5 = .ok (.if_icmp .ne 7, 3) := by decide +kernel
theorem d3_8 : decode method_3_code 8 = .ok (.iconst 1, 1) := by decide +kernel
theorem d3_9 : decode method_3_code 9 = .ok (.goto 4, 3) := by decide +kernel
theorem d3_12 : decode method_3_code 12 = .ok (.iconst 0, 1) := by decide +kernel
theorem d3_13 : decode method_3_code 13 = .ok (.istore_n 3, 1) := by decide +kernel
theorem d3_14 : decode method_3_code 14 = .ok (.iload_n 1, 1) := by decide +kernel
theorem d3_15 : decode method_3_code 15 = .ok (.ifCond .ge 7, 3) := by decide +kernel
theorem d3_18 : decode method_3_code 18 = .ok (.iconst 1, 1) := by decide +kernel
theorem d3_19 : decode method_3_code 19 = .ok (.goto 4, 3) := by decide +kernel
theorem d3_22 : decode method_3_code 22 = .ok (.iconst 0, 1) := by decide +kernel
theorem d3_23 : decode method_3_code 23 = .ok (.iload_n 0, 1) := by decide +kernel
theorem d3_24 : decode method_3_code 24 = .ok (.iload_n 2, 1) := by decide +kernel
theorem d3_25 : decode method_3_code 25 = .ok (.if_icmp .ne 7, 3) := by decide +kernel
theorem d3_28 : decode method_3_code 28 = .ok (.iconst 1, 1) := by decide +kernel
theorem d3_29 : decode method_3_code 29 = .ok (.goto 4, 3) := by decide +kernel
theorem d3_32 : decode method_3_code 32 = .ok (.iconst 0, 1) := by decide +kernel
theorem d3_33 : decode method_3_code 33 = .ok (.if_icmp .ne 7, 3) := by decide +kernel
theorem d3_36 : decode method_3_code 36 = .ok (.iconst 1, 1) := by decide +kernel
theorem d3_37 : decode method_3_code 37 = .ok (.goto 4, 3) := by decide +kernel
theorem d3_40 : decode method_3_code 40 = .ok (.iconst 0, 1) := by decide +kernel
theorem d3_41 : decode method_3_code 41 = .ok (.istore 4, 2) := by decide +kernel
theorem d3_43 : decode method_3_code 43 = .ok (.iload_n 3, 1) := by decide +kernel
theorem d3_44 : decode method_3_code 44 = .ok (.ifCond .eq 12, 3) := by decide +kernel
theorem d3_47 : decode method_3_code 47 = .ok (.iload 4, 2) := by decide +kernel
theorem d3_49 : decode method_3_code 49 = .ok (.ifCond .eq 7, 3) := by decide +kernel
theorem d3_52 : decode method_3_code 52 = .ok (.iconst 1, 1) := by decide +kernel
theorem d3_53 : decode method_3_code 53 = .ok (.goto 4, 3) := by decide +kernel
theorem d3_56 : decode method_3_code 56 = .ok (.iconst 0, 1) := by decide +kernel
theorem d3_57 : decode method_3_code 57 = .ok (.ireturn, 1) := by decide +kernel
theorem pn_3 : plainFor (⟨"com/example/needlewise/needlewise/ShiftsMarkLongestPinLaw", "check", "(III)Z"⟩ : MethodName) = true := plainFor_of_name (by first | (simp [plainName, overriddenIn]; done) | decide +kernel)
theorem ef_3 (m : MethodId) (x0 : Int32) (x1 : Int32) (x2 : Int32) : entryFrame m #[(.int x0), (.int x1), (.int x2)] 5 = mkF m 0 #[.val (.int x0), .val (.int x1), .val (.int x2), .unset, .unset] [] := by first | (simp [entryFrame, mkF, argsToLocals, Value.category]; done) | rfl
set_option maxRecDepth 65536 in
set_option maxHeartbeats 40000000 in
theorem rm3 (l : Launch) (Z : State) (a0 : Array Value) (hw : ∀ d ∈ tables_1, d.before a0 Z = true) (p1 : Int32) (p2 : Int32) (p3 : Int32)  (h0 : Heap) (n0 : Nat) (Z0 : n0 ≤ h0.size) (H : (p2 &&& 2147483647 = p1) ∧ (p2 < 0 ↔ p1 = p3)) :
    own_Met l Z [] (⟨"com/example/needlewise/needlewise/ShiftsMarkLongestPinLaw", "check", "(III)Z"⟩ : MethodName) method_3_code 5 (some .boolean) ({ frames := 0, cells := 0, slots := 0, locals := 0 } : Room) #[(.int p1), (.int p2), (.int p3)] h0 (own_QP (some (.int (1 : Int32))) h0 n0) := by
  refine own_enter pn_3 ?_
  intro p e s m below meth c s₁ X0 hx hby hml hown hret hlk hnm hZ e0
  have hml : c.maxLocals = 5 := hml
  have N0 := Fr.nil n0
  rw [ef_3 m p1 p2 p3]
  show own_Fin p e below s _ _ _ (s₁.setTop (mkF m 0 #[.val (.int p1), .val (.int p2), .val (.int p3), .unset, .unset] []))
  refine own_Fin.step (fun _ => XS.iloadN X0.here hx rfl (hb hby d3_0) rfl) ?_
  show own_Fin p e below s _ _ _ (s₁.setTop (mkF m 1 #[.val (.int p1), .val (.int p2), .val (.int p3), .unset, .unset] [(.int p2)]))
  refine own_Fin.step (X0.ldcInt hx hown (mvT hZ (own_w hw 0 rfl)) (g := (mkF m 1 #[.val (.int p1), .val (.int p2), .val (.int p3), .unset, .unset] [(.int p2)])) rfl (hb hby d3_1)) ?_
  show own_Fin p e below s _ _ _ (s₁.setTop (mkF m 3 #[.val (.int p1), .val (.int p2), .val (.int p3), .unset, .unset] [(.int (2147483647 : Int32)), (.int p2)]))
  refine own_Fin.step (fun _ => XS.iand X0.here hx rfl (hb hby d3_3) rfl) ?_
  show own_Fin p e below s _ _ _ (s₁.setTop (mkF m 4 #[.val (.int p1), .val (.int p2), .val (.int p3), .unset, .unset] [(.int (p2 &&& (2147483647 : Int32)))]))
  refine own_Fin.step (fun _ => XS.iloadN X0.here hx rfl (hb hby d3_4) rfl) ?_
  show own_Fin p e below s _ _ _ (s₁.setTop (mkF m 5 #[.val (.int p1), .val (.int p2), .val (.int p3), .unset, .unset] [(.int p1), (.int (p2 &&& (2147483647 : Int32)))]))
  refine own_Fin.step (fun _ => XS.icmpNo X0.here hx rfl (hb hby d3_5) rfl (XT.ii_ne_f H.1)) ?_
  show own_Fin p e below s _ _ _ (s₁.setTop (mkF m 8 #[.val (.int p1), .val (.int p2), .val (.int p3), .unset, .unset] []))
  refine own_Fin.step (fun _ => XS.iconst X0.here hx rfl (hb hby d3_8)) ?_
  show own_Fin p e below s _ _ _ (s₁.setTop (mkF m 9 #[.val (.int p1), .val (.int p2), .val (.int p3), .unset, .unset] [(.int (1 : Int32))]))
  refine own_Fin.step (fun _ => XS.goto X0.here hx rfl (pc0 := 9) (pc' := 13) rfl (hb hby d3_9) (by decide) (by decide)) ?_
  show own_Fin p e below s _ _ _ (s₁.setTop (mkF m 13 #[.val (.int p1), .val (.int p2), .val (.int p3), .unset, .unset] [(.int (1 : Int32))]))
  refine own_Fin.step (fun _ => XS.istoreN X0.here hx rfl (hb hby d3_13) rfl (l' := #[.val (.int p1), .val (.int p2), .val (.int p3), .val (.int (1 : Int32)), .unset]) rfl) ?_
  show own_Fin p e below s _ _ _ (s₁.setTop (mkF m 14 #[.val (.int p1), .val (.int p2), .val (.int p3), .val (.int (1 : Int32)), .unset] []))
  refine own_Fin.step (fun _ => XS.iloadN X0.here hx rfl (hb hby d3_14) rfl) ?_
  show own_Fin p e below s _ _ _ (s₁.setTop (mkF m 15 #[.val (.int p1), .val (.int p2), .val (.int p3), .val (.int (1 : Int32)), .unset] [(.int p2)]))
  by_cases hc15_1 : p2 < (0 : Int32)
  ·
    refine own_Fin.step (fun _ => XS.ifNo X0.here hx rfl (hb hby d3_15) rfl (XT.i0_ge_f hc15_1)) ?_
    show own_Fin p e below s _ _ _ (s₁.setTop (mkF m 18 #[.val (.int p1), .val (.int p2), .val (.int p3), .val (.int (1 : Int32)), .unset] []))
    refine own_Fin.step (fun _ => XS.iconst X0.here hx rfl (hb hby d3_18)) ?_
    show own_Fin p e below s _ _ _ (s₁.setTop (mkF m 19 #[.val (.int p1), .val (.int p2), .val (.int p3), .val (.int (1 : Int32)), .unset] [(.int (1 : Int32))]))
    refine own_Fin.step (fun _ => XS.goto X0.here hx rfl (pc0 := 19) (pc' := 23) rfl (hb hby d3_19) (by decide) (by decide)) ?_
    show own_Fin p e below s _ _ _ (s₁.setTop (mkF m 23 #[.val (.int p1), .val (.int p2), .val (.int p3), .val (.int (1 : Int32)), .unset] [(.int (1 : Int32))]))
    refine own_Fin.step (fun _ => XS.iloadN X0.here hx rfl (hb hby d3_23) rfl) ?_
    show own_Fin p e below s _ _ _ (s₁.setTop (mkF m 24 #[.val (.int p1), .val (.int p2), .val (.int p3), .val (.int (1 : Int32)), .unset] [(.int p1), (.int (1 : Int32))]))
    refine own_Fin.step (fun _ => XS.iloadN X0.here hx rfl (hb hby d3_24) rfl) ?_
    show own_Fin p e below s _ _ _ (s₁.setTop (mkF m 25 #[.val (.int p1), .val (.int p2), .val (.int p3), .val (.int (1 : Int32)), .unset] [(.int p3), (.int p1), (.int (1 : Int32))]))
    refine own_Fin.step (fun _ => XS.icmpNo X0.here hx rfl (hb hby d3_25) rfl (XT.ii_ne_f (H.2.mp hc15_1))) ?_
    show own_Fin p e below s _ _ _ (s₁.setTop (mkF m 28 #[.val (.int p1), .val (.int p2), .val (.int p3), .val (.int (1 : Int32)), .unset] [(.int (1 : Int32))]))
    refine own_Fin.step (fun _ => XS.iconst X0.here hx rfl (hb hby d3_28)) ?_
    show own_Fin p e below s _ _ _ (s₁.setTop (mkF m 29 #[.val (.int p1), .val (.int p2), .val (.int p3), .val (.int (1 : Int32)), .unset] [(.int (1 : Int32)), (.int (1 : Int32))]))
    refine own_Fin.step (fun _ => XS.goto X0.here hx rfl (pc0 := 29) (pc' := 33) rfl (hb hby d3_29) (by decide) (by decide)) ?_
    show own_Fin p e below s _ _ _ (s₁.setTop (mkF m 33 #[.val (.int p1), .val (.int p2), .val (.int p3), .val (.int (1 : Int32)), .unset] [(.int (1 : Int32)), (.int (1 : Int32))]))
    refine own_Fin.step (fun _ => XS.icmpNo X0.here hx rfl (hb hby d3_33) rfl (XT.ii_ne_f (by decide : (1 : Int32) = (1 : Int32)))) ?_
    show own_Fin p e below s _ _ _ (s₁.setTop (mkF m 36 #[.val (.int p1), .val (.int p2), .val (.int p3), .val (.int (1 : Int32)), .unset] []))
    refine own_Fin.step (fun _ => XS.iconst X0.here hx rfl (hb hby d3_36)) ?_
    show own_Fin p e below s _ _ _ (s₁.setTop (mkF m 37 #[.val (.int p1), .val (.int p2), .val (.int p3), .val (.int (1 : Int32)), .unset] [(.int (1 : Int32))]))
    refine own_Fin.step (fun _ => XS.goto X0.here hx rfl (pc0 := 37) (pc' := 41) rfl (hb hby d3_37) (by decide) (by decide)) ?_
    show own_Fin p e below s _ _ _ (s₁.setTop (mkF m 41 #[.val (.int p1), .val (.int p2), .val (.int p3), .val (.int (1 : Int32)), .unset] [(.int (1 : Int32))]))
    refine own_Fin.step (fun _ => XS.istore X0.here hx rfl (hb hby d3_41) rfl (l' := #[.val (.int p1), .val (.int p2), .val (.int p3), .val (.int (1 : Int32)), .val (.int (1 : Int32))]) rfl) ?_
    show own_Fin p e below s _ _ _ (s₁.setTop (mkF m 43 #[.val (.int p1), .val (.int p2), .val (.int p3), .val (.int (1 : Int32)), .val (.int (1 : Int32))] []))
    refine own_Fin.step (fun _ => XS.iloadN X0.here hx rfl (hb hby d3_43) rfl) ?_
    show own_Fin p e below s _ _ _ (s₁.setTop (mkF m 44 #[.val (.int p1), .val (.int p2), .val (.int p3), .val (.int (1 : Int32)), .val (.int (1 : Int32))] [(.int (1 : Int32))]))
    refine own_Fin.step (fun _ => XS.ifNo X0.here hx rfl (hb hby d3_44) rfl (XT.i0_eq_f (by decide : ¬ ((1 : Int32) = (0 : Int32))))) ?_
    show own_Fin p e below s _ _ _ (s₁.setTop (mkF m 47 #[.val (.int p1), .val (.int p2), .val (.int p3), .val (.int (1 : Int32)), .val (.int (1 : Int32))] []))
    refine own_Fin.step (fun _ => XS.iload X0.here hx rfl (hb hby d3_47) rfl) ?_
    show own_Fin p e below s _ _ _ (s₁.setTop (mkF m 49 #[.val (.int p1), .val (.int p2), .val (.int p3), .val (.int (1 : Int32)), .val (.int (1 : Int32))] [(.int (1 : Int32))]))
    refine own_Fin.step (fun _ => XS.ifNo X0.here hx rfl (hb hby d3_49) rfl (XT.i0_eq_f (by decide : ¬ ((1 : Int32) = (0 : Int32))))) ?_
    show own_Fin p e below s _ _ _ (s₁.setTop (mkF m 52 #[.val (.int p1), .val (.int p2), .val (.int p3), .val (.int (1 : Int32)), .val (.int (1 : Int32))] []))
    refine own_Fin.step (fun _ => XS.iconst X0.here hx rfl (hb hby d3_52)) ?_
    show own_Fin p e below s _ _ _ (s₁.setTop (mkF m 53 #[.val (.int p1), .val (.int p2), .val (.int p3), .val (.int (1 : Int32)), .val (.int (1 : Int32))] [(.int (1 : Int32))]))
    refine own_Fin.step (fun _ => XS.goto X0.here hx rfl (pc0 := 53) (pc' := 57) rfl (hb hby d3_53) (by decide) (by decide)) ?_
    show own_Fin p e below s _ _ _ (s₁.setTop (mkF m 57 #[.val (.int p1), .val (.int p2), .val (.int p3), .val (.int (1 : Int32)), .val (.int (1 : Int32))] [(.int (1 : Int32))]))
    exact own_retN X0 hx hlk (t := .boolean) hret (by simp) (hb hby d3_57) ⟨rfl, N0, e0⟩ (by decide) (by decide)
  ·
    refine own_Fin.step (fun _ => XS.ifYes X0.here hx rfl (pc0 := 15) (pc' := 22) rfl (hb hby d3_15) rfl (XT.i0_ge_t hc15_1) (by decide) (by decide)) ?_
    show own_Fin p e below s _ _ _ (s₁.setTop (mkF m 22 #[.val (.int p1), .val (.int p2), .val (.int p3), .val (.int (1 : Int32)), .unset] []))
    refine own_Fin.step (fun _ => XS.iconst X0.here hx rfl (hb hby d3_22)) ?_
    show own_Fin p e below s _ _ _ (s₁.setTop (mkF m 23 #[.val (.int p1), .val (.int p2), .val (.int p3), .val (.int (1 : Int32)), .unset] [(.int (0 : Int32))]))
    refine own_Fin.step (fun _ => XS.iloadN X0.here hx rfl (hb hby d3_23) rfl) ?_
    show own_Fin p e below s _ _ _ (s₁.setTop (mkF m 24 #[.val (.int p1), .val (.int p2), .val (.int p3), .val (.int (1 : Int32)), .unset] [(.int p1), (.int (0 : Int32))]))
    refine own_Fin.step (fun _ => XS.iloadN X0.here hx rfl (hb hby d3_24) rfl) ?_
    show own_Fin p e below s _ _ _ (s₁.setTop (mkF m 25 #[.val (.int p1), .val (.int p2), .val (.int p3), .val (.int (1 : Int32)), .unset] [(.int p3), (.int p1), (.int (0 : Int32))]))
    refine own_Fin.step (fun _ => XS.icmpYes X0.here hx rfl (pc0 := 25) (pc' := 32) rfl (hb hby d3_25) rfl (XT.ii_ne_t (fun q => hc15_1 (H.2.mpr q))) (by decide) (by decide)) ?_
    show own_Fin p e below s _ _ _ (s₁.setTop (mkF m 32 #[.val (.int p1), .val (.int p2), .val (.int p3), .val (.int (1 : Int32)), .unset] [(.int (0 : Int32))]))
    refine own_Fin.step (fun _ => XS.iconst X0.here hx rfl (hb hby d3_32)) ?_
    show own_Fin p e below s _ _ _ (s₁.setTop (mkF m 33 #[.val (.int p1), .val (.int p2), .val (.int p3), .val (.int (1 : Int32)), .unset] [(.int (0 : Int32)), (.int (0 : Int32))]))
    refine own_Fin.step (fun _ => XS.icmpNo X0.here hx rfl (hb hby d3_33) rfl (XT.ii_ne_f (by decide : (0 : Int32) = (0 : Int32)))) ?_
    show own_Fin p e below s _ _ _ (s₁.setTop (mkF m 36 #[.val (.int p1), .val (.int p2), .val (.int p3), .val (.int (1 : Int32)), .unset] []))
    refine own_Fin.step (fun _ => XS.iconst X0.here hx rfl (hb hby d3_36)) ?_
    show own_Fin p e below s _ _ _ (s₁.setTop (mkF m 37 #[.val (.int p1), .val (.int p2), .val (.int p3), .val (.int (1 : Int32)), .unset] [(.int (1 : Int32))]))
    refine own_Fin.step (fun _ => XS.goto X0.here hx rfl (pc0 := 37) (pc' := 41) rfl (hb hby d3_37) (by decide) (by decide)) ?_
    show own_Fin p e below s _ _ _ (s₁.setTop (mkF m 41 #[.val (.int p1), .val (.int p2), .val (.int p3), .val (.int (1 : Int32)), .unset] [(.int (1 : Int32))]))
    refine own_Fin.step (fun _ => XS.istore X0.here hx rfl (hb hby d3_41) rfl (l' := #[.val (.int p1), .val (.int p2), .val (.int p3), .val (.int (1 : Int32)), .val (.int (1 : Int32))]) rfl) ?_
    show own_Fin p e below s _ _ _ (s₁.setTop (mkF m 43 #[.val (.int p1), .val (.int p2), .val (.int p3), .val (.int (1 : Int32)), .val (.int (1 : Int32))] []))
    refine own_Fin.step (fun _ => XS.iloadN X0.here hx rfl (hb hby d3_43) rfl) ?_
    show own_Fin p e below s _ _ _ (s₁.setTop (mkF m 44 #[.val (.int p1), .val (.int p2), .val (.int p3), .val (.int (1 : Int32)), .val (.int (1 : Int32))] [(.int (1 : Int32))]))
    refine own_Fin.step (fun _ => XS.ifNo X0.here hx rfl (hb hby d3_44) rfl (XT.i0_eq_f (by decide : ¬ ((1 : Int32) = (0 : Int32))))) ?_
    show own_Fin p e below s _ _ _ (s₁.setTop (mkF m 47 #[.val (.int p1), .val (.int p2), .val (.int p3), .val (.int (1 : Int32)), .val (.int (1 : Int32))] []))
    refine own_Fin.step (fun _ => XS.iload X0.here hx rfl (hb hby d3_47) rfl) ?_
    show own_Fin p e below s _ _ _ (s₁.setTop (mkF m 49 #[.val (.int p1), .val (.int p2), .val (.int p3), .val (.int (1 : Int32)), .val (.int (1 : Int32))] [(.int (1 : Int32))]))
    refine own_Fin.step (fun _ => XS.ifNo X0.here hx rfl (hb hby d3_49) rfl (XT.i0_eq_f (by decide : ¬ ((1 : Int32) = (0 : Int32))))) ?_
    show own_Fin p e below s _ _ _ (s₁.setTop (mkF m 52 #[.val (.int p1), .val (.int p2), .val (.int p3), .val (.int (1 : Int32)), .val (.int (1 : Int32))] []))
    refine own_Fin.step (fun _ => XS.iconst X0.here hx rfl (hb hby d3_52)) ?_
    show own_Fin p e below s _ _ _ (s₁.setTop (mkF m 53 #[.val (.int p1), .val (.int p2), .val (.int p3), .val (.int (1 : Int32)), .val (.int (1 : Int32))] [(.int (1 : Int32))]))
    refine own_Fin.step (fun _ => XS.goto X0.here hx rfl (pc0 := 53) (pc' := 57) rfl (hb hby d3_53) (by decide) (by decide)) ?_
    show own_Fin p e below s _ _ _ (s₁.setTop (mkF m 57 #[.val (.int p1), .val (.int p2), .val (.int p3), .val (.int (1 : Int32)), .val (.int (1 : Int32))] [(.int (1 : Int32))]))
    exact own_retN X0 hx hlk (t := .boolean) hret (by simp) (hb hby d3_57) ⟨rfl, N0, e0⟩ (by decide) (by decide)
theorem pn_0 : plainFor (⟨"com/example/needlewise/needlewise/ShiftsMarkLongestPinLaw", "law", "(IIIII)Z"⟩ : MethodName) = true := plainFor_of_name (by first | (simp [plainName, overriddenIn]; done) | decide +kernel)
theorem ef_0 (m : MethodId) (x0 : Int32) (x1 : Int32) (x2 : Int32) (x3 : Int32) (x4 : Int32) : entryFrame m #[(.int x0), (.int x1), (.int x2), (.int x3), (.int x4)] maxLocals = mkF m 0 #[.val (.int x0), .val (.int x1), .val (.int x2), .val (.int x3), .val (.int x4), .unset, .unset, .unset, .unset, .unset, .unset] [] := by first | (simp [entryFrame, mkF, argsToLocals, Value.category, maxLocals]; done) | rfl
theorem pd_0 : parseMethodDescriptor "([II)[I" = some ⟨[(.array .int), .int], some (.array .int)⟩ := by decide +kernel
theorem pd_1 : parseMethodDescriptor "(III)Z" = some ⟨[.int, .int, .int], some .boolean⟩ := by decide +kernel
theorem pd_2 : parseMethodDescriptor "(II)I" = some ⟨[.int, .int], some .int⟩ := by decide +kernel
set_option maxRecDepth 65536 in
set_option maxHeartbeats 40000000 in
theorem rm0 (l : Launch) (Z : State) (a0 : Array Value) (hw : ∀ d ∈ tables_1, d.before a0 Z = true) (p1 : Int32) (p2 : Int32) (p3 : Int32) (p4 : Int32) (p5 : Int32)  (h0 : Heap) (n0 : Nat) (Z0 : n0 ≤ h0.size)  :
    own_Met l Z tables_1 x code maxLocals ret room_1 #[(.int p1), (.int p2), (.int p3), (.int p4), (.int p5)] h0 (own_Q0 n0) := by
  refine own_enter pn_0 ?_
  intro p e s m below meth c s₁ X0 hx hby hml hown hret hlk hnm hZ e0
  have hml : c.maxLocals = 11 := hml
  have N0 := Fr.nil n0
  rw [ef_0 m p1 p2 p3 p4 p5]
  show own_Fin p e below s _ _ _ (s₁.setTop (mkF m 0 #[.val (.int p1), .val (.int p2), .val (.int p3), .val (.int p4), .val (.int p5), .unset, .unset, .unset, .unset, .unset, .unset] []))
  refine own_Fin.step (fun _ => XS.iloadN X0.here hx rfl (hb hby at_0) rfl) ?_
  show own_Fin p e below s _ _ _ (s₁.setTop (mkF m 1 #[.val (.int p1), .val (.int p2), .val (.int p3), .val (.int p4), .val (.int p5), .unset, .unset, .unset, .unset, .unset, .unset] [(.int p1)]))
  refine own_Fin.step (X0.ldcInt hx hown (mvT hZ (own_w hw 0 rfl)) (g := (mkF m 1 #[.val (.int p1), .val (.int p2), .val (.int p3), .val (.int p4), .val (.int p5), .unset, .unset, .unset, .unset, .unset, .unset] [(.int p1)])) rfl (hb hby at_1)) ?_
  show own_Fin p e below s _ _ _ (s₁.setTop (mkF m 3 #[.val (.int p1), .val (.int p2), .val (.int p3), .val (.int p4), .val (.int p5), .unset, .unset, .unset, .unset, .unset, .unset] [(.int (2147483647 : Int32)), (.int p1)]))
  refine own_Fin.step (fun _ => XS.iand X0.here hx rfl (hb hby at_3) rfl) ?_
  show own_Fin p e below s _ _ _ (s₁.setTop (mkF m 4 #[.val (.int p1), .val (.int p2), .val (.int p3), .val (.int p4), .val (.int p5), .unset, .unset, .unset, .unset, .unset, .unset] [(.int (p1 &&& (2147483647 : Int32)))]))
  generalize hlg0 : (p1 &&& (2147483647 : Int32)) = lg
  have hlg : ¬ lg < 0 := hlg0 ▸ own_nn p1
  refine own_Fin.step (fun _ => XS.istore X0.here hx rfl (hb hby at_4) rfl (l' := #[.val (.int p1), .val (.int p2), .val (.int p3), .val (.int p4), .val (.int p5), .val (.int lg), .unset, .unset, .unset, .unset, .unset]) rfl) ?_
  show own_Fin p e below s _ _ _ (s₁.setTop (mkF m 6 #[.val (.int p1), .val (.int p2), .val (.int p3), .val (.int p4), .val (.int p5), .val (.int lg), .unset, .unset, .unset, .unset, .unset] []))
  refine own_Fin.step (fun _ => XS.iload X0.here hx rfl (hb hby at_6) rfl) ?_
  show own_Fin p e below s _ _ _ (s₁.setTop (mkF m 8 #[.val (.int p1), .val (.int p2), .val (.int p3), .val (.int p4), .val (.int p5), .val (.int lg), .unset, .unset, .unset, .unset, .unset] [(.int p5)]))
  refine own_Fin.step (fun _ => XS.iconst X0.here hx rfl (hb hby at_8)) ?_
  show own_Fin p e below s _ _ _ (s₁.setTop (mkF m 9 #[.val (.int p1), .val (.int p2), .val (.int p3), .val (.int p4), .val (.int p5), .val (.int lg), .unset, .unset, .unset, .unset, .unset] [(.int (1 : Int32)), (.int p5)]))
  refine own_Fin.step (fun _ => XS.iand X0.here hx rfl (hb hby at_9) rfl) ?_
  show own_Fin p e below s _ _ _ (s₁.setTop (mkF m 10 #[.val (.int p1), .val (.int p2), .val (.int p3), .val (.int p4), .val (.int p5), .val (.int lg), .unset, .unset, .unset, .unset, .unset] [(.int (p5 &&& (1 : Int32)))]))
  have j24 : ∀ (z0 : Int32) (TJ0 : State) (LJ0 : List Loc), Stand p l e room_1 s m #[(.int p1), (.int p2), (.int p3), (.int p4), (.int p5)] below meth c TJ0 LJ0 0 0 → Fr n0 LJ0 → TJ0.heap = h0 → own_in z0 lg → own_Fin p e below s (own_Q0 n0) room_1.cells room_1.slots (TJ0.setTop (mkF m 24 #[.val (.int p1), .val (.int p2), .val (.int p3), .val (.int p4), .val (.int p5), .val (.int lg), .unset, .unset, .unset, .unset, .unset] [(.int z0)])) := by
    intro z0 TJ0 LJ0 XJ0 NJ0 eJ0 hz0
    show own_Fin p e below s _ _ _ (TJ0.setTop (mkF m 24 #[.val (.int p1), .val (.int p2), .val (.int p3), .val (.int p4), .val (.int p5), .val (.int lg), .unset, .unset, .unset, .unset, .unset] [(.int z0)]))
    refine own_Fin.step (fun _ => XS.istore XJ0.here hx rfl (hb hby at_24) rfl (l' := #[.val (.int p1), .val (.int p2), .val (.int p3), .val (.int p4), .val (.int p5), .val (.int lg), .val (.int z0), .unset, .unset, .unset, .unset]) rfl) ?_
    show own_Fin p e below s _ _ _ (TJ0.setTop (mkF m 26 #[.val (.int p1), .val (.int p2), .val (.int p3), .val (.int p4), .val (.int p5), .val (.int lg), .val (.int z0), .unset, .unset, .unset, .unset] []))
    refine own_Fin.step (fun _ => XS.iload XJ0.here hx rfl (hb hby at_26) rfl) ?_
    show own_Fin p e below s _ _ _ (TJ0.setTop (mkF m 28 #[.val (.int p1), .val (.int p2), .val (.int p3), .val (.int p4), .val (.int p5), .val (.int lg), .val (.int z0), .unset, .unset, .unset, .unset] [(.int p5)]))
    refine own_Fin.step (fun _ => XS.iconst XJ0.here hx rfl (hb hby at_28)) ?_
    show own_Fin p e below s _ _ _ (TJ0.setTop (mkF m 29 #[.val (.int p1), .val (.int p2), .val (.int p3), .val (.int p4), .val (.int p5), .val (.int lg), .val (.int z0), .unset, .unset, .unset, .unset] [(.int (2 : Int32)), (.int p5)]))
    refine own_Fin.step (fun _ => XS.iand XJ0.here hx rfl (hb hby at_29) rfl) ?_
    show own_Fin p e below s _ _ _ (TJ0.setTop (mkF m 30 #[.val (.int p1), .val (.int p2), .val (.int p3), .val (.int p4), .val (.int p5), .val (.int lg), .val (.int z0), .unset, .unset, .unset, .unset] [(.int (p5 &&& (2 : Int32)))]))
    have j44 : ∀ (z1 : Int32) (TJ1 : State) (LJ1 : List Loc), Stand p l e room_1 s m #[(.int p1), (.int p2), (.int p3), (.int p4), (.int p5)] below meth c TJ1 LJ1 0 0 → Fr n0 LJ1 → TJ1.heap = h0 → own_in z1 lg → own_Fin p e below s (own_Q0 n0) room_1.cells room_1.slots (TJ1.setTop (mkF m 44 #[.val (.int p1), .val (.int p2), .val (.int p3), .val (.int p4), .val (.int p5), .val (.int lg), .val (.int z0), .unset, .unset, .unset, .unset] [(.int z1)])) := by
      intro z1 TJ1 LJ1 XJ1 NJ1 eJ1 hz1
      show own_Fin p e below s _ _ _ (TJ1.setTop (mkF m 44 #[.val (.int p1), .val (.int p2), .val (.int p3), .val (.int p4), .val (.int p5), .val (.int lg), .val (.int z0), .unset, .unset, .unset, .unset] [(.int z1)]))
      refine own_Fin.step (fun _ => XS.istore XJ1.here hx rfl (hb hby at_44) rfl (l' := #[.val (.int p1), .val (.int p2), .val (.int p3), .val (.int p4), .val (.int p5), .val (.int lg), .val (.int z0), .val (.int z1), .unset, .unset, .unset]) rfl) ?_
      show own_Fin p e below s _ _ _ (TJ1.setTop (mkF m 46 #[.val (.int p1), .val (.int p2), .val (.int p3), .val (.int p4), .val (.int p5), .val (.int lg), .val (.int z0), .val (.int z1), .unset, .unset, .unset] []))
      refine own_Fin.step (fun _ => XS.iload XJ1.here hx rfl (hb hby at_46) rfl) ?_
      show own_Fin p e below s _ _ _ (TJ1.setTop (mkF m 48 #[.val (.int p1), .val (.int p2), .val (.int p3), .val (.int p4), .val (.int p5), .val (.int lg), .val (.int z0), .val (.int z1), .unset, .unset, .unset] [(.int p5)]))
      refine own_Fin.step (fun _ => XS.iconst XJ1.here hx rfl (hb hby at_48)) ?_
      show own_Fin p e below s _ _ _ (TJ1.setTop (mkF m 49 #[.val (.int p1), .val (.int p2), .val (.int p3), .val (.int p4), .val (.int p5), .val (.int lg), .val (.int z0), .val (.int z1), .unset, .unset, .unset] [(.int (4 : Int32)), (.int p5)]))
      refine own_Fin.step (fun _ => XS.iand XJ1.here hx rfl (hb hby at_49) rfl) ?_
      show own_Fin p e below s _ _ _ (TJ1.setTop (mkF m 50 #[.val (.int p1), .val (.int p2), .val (.int p3), .val (.int p4), .val (.int p5), .val (.int lg), .val (.int z0), .val (.int z1), .unset, .unset, .unset] [(.int (p5 &&& (4 : Int32)))]))
      have j64 : ∀ (z2 : Int32) (TJ2 : State) (LJ2 : List Loc), Stand p l e room_1 s m #[(.int p1), (.int p2), (.int p3), (.int p4), (.int p5)] below meth c TJ2 LJ2 0 0 → Fr n0 LJ2 → TJ2.heap = h0 → own_in z2 lg → own_Fin p e below s (own_Q0 n0) room_1.cells room_1.slots (TJ2.setTop (mkF m 64 #[.val (.int p1), .val (.int p2), .val (.int p3), .val (.int p4), .val (.int p5), .val (.int lg), .val (.int z0), .val (.int z1), .unset, .unset, .unset] [(.int z2)])) := by
        intro z2 TJ2 LJ2 XJ2 NJ2 eJ2 hz2
        show own_Fin p e below s _ _ _ (TJ2.setTop (mkF m 64 #[.val (.int p1), .val (.int p2), .val (.int p3), .val (.int p4), .val (.int p5), .val (.int lg), .val (.int z0), .val (.int z1), .unset, .unset, .unset] [(.int z2)]))
        refine own_Fin.step (fun _ => XS.istore XJ2.here hx rfl (hb hby at_64) rfl (l' := #[.val (.int p1), .val (.int p2), .val (.int p3), .val (.int p4), .val (.int p5), .val (.int lg), .val (.int z0), .val (.int z1), .val (.int z2), .unset, .unset]) rfl) ?_
        show own_Fin p e below s _ _ _ (TJ2.setTop (mkF m 66 #[.val (.int p1), .val (.int p2), .val (.int p3), .val (.int p4), .val (.int p5), .val (.int lg), .val (.int z0), .val (.int z1), .val (.int z2), .unset, .unset] []))
        refine own_Fin.step (fun _ => XS.iconst XJ2.here hx rfl (hb hby at_66)) ?_
        show own_Fin p e below s _ _ _ (TJ2.setTop (mkF m 67 #[.val (.int p1), .val (.int p2), .val (.int p3), .val (.int p4), .val (.int p5), .val (.int lg), .val (.int z0), .val (.int z1), .val (.int z2), .unset, .unset] [(.int (3 : Int32))]))
        obtain ⟨T4, h4, k4, b4, X4, e4, E4, g4, V4, st4⟩ := own_newA XJ2 hx hZ (own_w hw 6 rfl) eJ2 (ty := .int) (dv := (.int (0 : Int32))) rfl rfl (g := (mkF m 67 #[.val (.int p1), .val (.int p2), .val (.int p3), .val (.int p4), .val (.int p5), .val (.int lg), .val (.int z0), .val (.int z1), .val (.int z2), .unset, .unset] [(.int (3 : Int32))])) rfl (hb hby at_67) rfl (by decide) (cap := 3) (by decide) (by decide) (by decide) (by decide) (3)
        have ge5 : n0 ≤ b4 := Nat.le_trans Z0 (Nat.le_of_eq g4.symm)
        have Z4 : n0 ≤ h4.size := Nat.le_trans Z0 E4.1
        have V4' : Arv Z h4 b4 k4 .int (3 : Int32) [(.int (0 : Int32)), (.int (0 : Int32)), (.int (0 : Int32))] (.int (0 : Int32)) := V4
        refine own_Fin.step st4 ?_
        show own_Fin p e below s _ _ _ (T4.setTop (mkF m 69 #[.val (.int p1), .val (.int p2), .val (.int p3), .val (.int p4), .val (.int p5), .val (.int lg), .val (.int z0), .val (.int z1), .val (.int z2), .unset, .unset] [(.ref b4)]))
        refine own_Fin.step (fun _ => XS.astore X4.here hx rfl (hb hby at_69) rfl rfl (l' := #[.val (.int p1), .val (.int p2), .val (.int p3), .val (.int p4), .val (.int p5), .val (.int lg), .val (.int z0), .val (.int z1), .val (.int z2), .val (.ref b4), .unset]) rfl) ?_
        show own_Fin p e below s _ _ _ (T4.setTop (mkF m 71 #[.val (.int p1), .val (.int p2), .val (.int p3), .val (.int p4), .val (.int p5), .val (.int lg), .val (.int z0), .val (.int z1), .val (.int z2), .val (.ref b4), .unset] []))
        refine own_Fin.step (fun _ => XS.aload X4.here hx rfl (hb hby at_71) rfl rfl) ?_
        show own_Fin p e below s _ _ _ (T4.setTop (mkF m 73 #[.val (.int p1), .val (.int p2), .val (.int p3), .val (.int p4), .val (.int p5), .val (.int lg), .val (.int z0), .val (.int z1), .val (.int z2), .val (.ref b4), .unset] [(.ref b4)]))
        refine own_Fin.step (fun _ => XS.iconst X4.here hx rfl (hb hby at_73)) ?_
        show own_Fin p e below s _ _ _ (T4.setTop (mkF m 74 #[.val (.int p1), .val (.int p2), .val (.int p3), .val (.int p4), .val (.int p5), .val (.int lg), .val (.int z0), .val (.int z1), .val (.int z2), .val (.ref b4), .unset] [(.int (0 : Int32)), (.ref b4)]))
        refine own_Fin.step (fun _ => XS.iload X4.here hx rfl (hb hby at_74) rfl) ?_
        show own_Fin p e below s _ _ _ (T4.setTop (mkF m 76 #[.val (.int p1), .val (.int p2), .val (.int p3), .val (.int p4), .val (.int p5), .val (.int lg), .val (.int z0), .val (.int z1), .val (.int z2), .val (.ref b4), .unset] [(.int z0), (.int (0 : Int32)), (.ref b4)]))
        obtain ⟨T6, h6, X6, e6, V6, W6, st6⟩ := own_stI X4 hx hZ e4 V4' (j := (0 : Int32)) ⟨by decide, by decide⟩ (0) rfl (Nat.le_of_ble_eq_true rfl) (g := (mkF m 76 #[.val (.int p1), .val (.int p2), .val (.int p3), .val (.int p4), .val (.int p5), .val (.int lg), .val (.int z0), .val (.int z1), .val (.int z2), .val (.ref b4), .unset] [(.int z0), (.int (0 : Int32)), (.ref b4)])) rfl rfl (hb hby at_76)
        have V6' : Arv Z h6 b4 k4 .int (3 : Int32) [(.int z0), (.int (0 : Int32)), (.int (0 : Int32))] (.int (0 : Int32)) := V6
        have N6 := Fr.snoc X6 NJ2 ge5
        have Z6 : n0 ≤ h6.size := Nat.le_trans Z4 (Nat.le_of_eq W6.size.symm)
        refine own_Fin.step st6 ?_
        show own_Fin p e below s _ _ _ (T6.setTop (mkF m 77 #[.val (.int p1), .val (.int p2), .val (.int p3), .val (.int p4), .val (.int p5), .val (.int lg), .val (.int z0), .val (.int z1), .val (.int z2), .val (.ref b4), .unset] []))
        refine own_Fin.step (fun _ => XS.aload X6.here hx rfl (hb hby at_77) rfl rfl) ?_
        show own_Fin p e below s _ _ _ (T6.setTop (mkF m 79 #[.val (.int p1), .val (.int p2), .val (.int p3), .val (.int p4), .val (.int p5), .val (.int lg), .val (.int z0), .val (.int z1), .val (.int z2), .val (.ref b4), .unset] [(.ref b4)]))
        refine own_Fin.step (fun _ => XS.iconst X6.here hx rfl (hb hby at_79)) ?_
        show own_Fin p e below s _ _ _ (T6.setTop (mkF m 80 #[.val (.int p1), .val (.int p2), .val (.int p3), .val (.int p4), .val (.int p5), .val (.int lg), .val (.int z0), .val (.int z1), .val (.int z2), .val (.ref b4), .unset] [(.int (1 : Int32)), (.ref b4)]))
        refine own_Fin.step (fun _ => XS.iload X6.here hx rfl (hb hby at_80) rfl) ?_
        show own_Fin p e below s _ _ _ (T6.setTop (mkF m 82 #[.val (.int p1), .val (.int p2), .val (.int p3), .val (.int p4), .val (.int p5), .val (.int lg), .val (.int z0), .val (.int z1), .val (.int z2), .val (.ref b4), .unset] [(.int z1), (.int (1 : Int32)), (.ref b4)]))
        obtain ⟨T8, h8, X8, e8, V8, W8, st8⟩ := own_stI X6 hx hZ e6 V6' (j := (1 : Int32)) ⟨by decide, by decide⟩ (1) rfl (Nat.le_of_ble_eq_true rfl) (g := (mkF m 82 #[.val (.int p1), .val (.int p2), .val (.int p3), .val (.int p4), .val (.int p5), .val (.int lg), .val (.int z0), .val (.int z1), .val (.int z2), .val (.ref b4), .unset] [(.int z1), (.int (1 : Int32)), (.ref b4)])) rfl rfl (hb hby at_82)
        have V8' : Arv Z h8 b4 k4 .int (3 : Int32) [(.int z0), (.int z1), (.int (0 : Int32))] (.int (0 : Int32)) := V8
        have N8 := Fr.snoc X8 N6 ge5
        have Z8 : n0 ≤ h8.size := Nat.le_trans Z6 (Nat.le_of_eq W8.size.symm)
        refine own_Fin.step st8 ?_
        show own_Fin p e below s _ _ _ (T8.setTop (mkF m 83 #[.val (.int p1), .val (.int p2), .val (.int p3), .val (.int p4), .val (.int p5), .val (.int lg), .val (.int z0), .val (.int z1), .val (.int z2), .val (.ref b4), .unset] []))
        refine own_Fin.step (fun _ => XS.aload X8.here hx rfl (hb hby at_83) rfl rfl) ?_
        show own_Fin p e below s _ _ _ (T8.setTop (mkF m 85 #[.val (.int p1), .val (.int p2), .val (.int p3), .val (.int p4), .val (.int p5), .val (.int lg), .val (.int z0), .val (.int z1), .val (.int z2), .val (.ref b4), .unset] [(.ref b4)]))
        refine own_Fin.step (fun _ => XS.iconst X8.here hx rfl (hb hby at_85)) ?_
        show own_Fin p e below s _ _ _ (T8.setTop (mkF m 86 #[.val (.int p1), .val (.int p2), .val (.int p3), .val (.int p4), .val (.int p5), .val (.int lg), .val (.int z0), .val (.int z1), .val (.int z2), .val (.ref b4), .unset] [(.int (2 : Int32)), (.ref b4)]))
        refine own_Fin.step (fun _ => XS.iload X8.here hx rfl (hb hby at_86) rfl) ?_
        show own_Fin p e below s _ _ _ (T8.setTop (mkF m 88 #[.val (.int p1), .val (.int p2), .val (.int p3), .val (.int p4), .val (.int p5), .val (.int lg), .val (.int z0), .val (.int z1), .val (.int z2), .val (.ref b4), .unset] [(.int z2), (.int (2 : Int32)), (.ref b4)]))
        obtain ⟨T10, h10, X10, e10, V10, W10, st10⟩ := own_stI X8 hx hZ e8 V8' (j := (2 : Int32)) ⟨by decide, by decide⟩ (2) rfl (Nat.le_of_ble_eq_true rfl) (g := (mkF m 88 #[.val (.int p1), .val (.int p2), .val (.int p3), .val (.int p4), .val (.int p5), .val (.int lg), .val (.int z0), .val (.int z1), .val (.int z2), .val (.ref b4), .unset] [(.int z2), (.int (2 : Int32)), (.ref b4)])) rfl rfl (hb hby at_88)
        have V10' : Arv Z h10 b4 k4 .int (3 : Int32) [(.int z0), (.int z1), (.int z2)] (.int (0 : Int32)) := V10
        have N10 := Fr.snoc X10 N8 ge5
        have Z10 : n0 ≤ h10.size := Nat.le_trans Z8 (Nat.le_of_eq W10.size.symm)
        refine own_Fin.step st10 ?_
        show own_Fin p e below s _ _ _ (T10.setTop (mkF m 89 #[.val (.int p1), .val (.int p2), .val (.int p3), .val (.int p4), .val (.int p5), .val (.int lg), .val (.int z0), .val (.int z1), .val (.int z2), .val (.ref b4), .unset] []))
        refine own_Fin.step (fun _ => XS.aload X10.here hx rfl (hb hby at_89) rfl rfl) ?_
        show own_Fin p e below s _ _ _ (T10.setTop (mkF m 91 #[.val (.int p1), .val (.int p2), .val (.int p3), .val (.int p4), .val (.int p5), .val (.int lg), .val (.int z0), .val (.int z1), .val (.int z2), .val (.ref b4), .unset] [(.ref b4)]))
        refine own_Fin.step (fun _ => XS.iload X10.here hx rfl (hb hby at_91) rfl) ?_
        show own_Fin p e below s _ _ _ (T10.setTop (mkF m 93 #[.val (.int p1), .val (.int p2), .val (.int p3), .val (.int p4), .val (.int p5), .val (.int lg), .val (.int z0), .val (.int z1), .val (.int z2), .val (.ref b4), .unset] [(.int lg), (.ref b4)]))
        obtain ⟨_, T12, L12, X12, ⟨rfl, N12q, K12, V12⟩, st12⟩ := own_callS X10 hx hZ hown (own_w hw 7 rfl) (own_w hw 8 rfl) (own_w hw 9 rfl) (own_w hw 10 rfl) (by decide) (rm2 l Z a0 hw b4 lg k4 z0 z1 z2 h10 n0 Z10 ge5 V10') (by decide) (by decide) e10 (W := 0) (g := (mkF m 93 #[.val (.int p1), .val (.int p2), .val (.int p3), .val (.int p4), .val (.int p5), .val (.int lg), .val (.int z0), .val (.int z1), .val (.int z2), .val (.ref b4), .unset] [(.int lg), (.ref b4)])) rfl (by rw [hml]; rfl) (argsL := [(.ref b4), (.int lg)]) (rest := []) (lenOf pd_0 rfl) rfl rfl (by show 2 * 0 + _ ≤ _; exact Nat.le_of_eq rfl) (hb hby at_93) (by decide) (by decide)
        have N12 := Fr.app N10 N12q
        have Z12 : n0 ≤ T12.heap.size := Nat.le_trans Z10 K12.1
        refine own_Fin.step st12 ?_
        show own_Fin p e below s _ _ _ (T12.setTop (mkF m 96 #[.val (.int p1), .val (.int p2), .val (.int p3), .val (.int p4), .val (.int p5), .val (.int lg), .val (.int z0), .val (.int z1), .val (.int z2), .val (.ref b4), .unset] [(.ref b4)]))
        refine own_Fin.step (fun _ => XS.astore X12.here hx rfl (hb hby at_96) rfl rfl (l' := #[.val (.int p1), .val (.int p2), .val (.int p3), .val (.int p4), .val (.int p5), .val (.int lg), .val (.int z0), .val (.int z1), .val (.int z2), .val (.ref b4), .val (.ref b4)]) rfl) ?_
        show own_Fin p e below s _ _ _ (T12.setTop (mkF m 98 #[.val (.int p1), .val (.int p2), .val (.int p3), .val (.int p4), .val (.int p5), .val (.int lg), .val (.int z0), .val (.int z1), .val (.int z2), .val (.ref b4), .val (.ref b4)] []))
        refine own_Fin.step (fun _ => XS.aload X12.here hx rfl (hb hby at_98) rfl rfl) ?_
        show own_Fin p e below s _ _ _ (T12.setTop (mkF m 100 #[.val (.int p1), .val (.int p2), .val (.int p3), .val (.int p4), .val (.int p5), .val (.int lg), .val (.int z0), .val (.int z1), .val (.int z2), .val (.ref b4), .val (.ref b4)] [(.ref b4)]))
        refine own_Fin.step (fun _ => XS.aload X12.here hx rfl (hb hby at_100) rfl rfl) ?_
        show own_Fin p e below s _ _ _ (T12.setTop (mkF m 102 #[.val (.int p1), .val (.int p2), .val (.int p3), .val (.int p4), .val (.int p5), .val (.int lg), .val (.int z0), .val (.int z1), .val (.int z2), .val (.ref b4), .val (.ref b4)] [(.ref b4), (.ref b4)]))
        refine own_Fin.step (fun _ => XT.acmpYes X12.here hx rfl (pc0 := 102) (pc' := 107) rfl (hb hby at_102) rfl rfl rfl (XT.aa_eq_t rfl) (by decide) (by decide)) ?_
        show own_Fin p e below s _ _ _ (T12.setTop (mkF m 107 #[.val (.int p1), .val (.int p2), .val (.int p3), .val (.int p4), .val (.int p5), .val (.int lg), .val (.int z0), .val (.int z1), .val (.int z2), .val (.ref b4), .val (.ref b4)] []))
        refine own_Fin.step (fun _ => XS.iload X12.here hx rfl (hb hby at_107) rfl) ?_
        show own_Fin p e below s _ _ _ (T12.setTop (mkF m 109 #[.val (.int p1), .val (.int p2), .val (.int p3), .val (.int p4), .val (.int p5), .val (.int lg), .val (.int z0), .val (.int z1), .val (.int z2), .val (.ref b4), .val (.ref b4)] [(.int z0)]))
        refine own_Fin.step (fun _ => XS.aload X12.here hx rfl (hb hby at_109) rfl rfl) ?_
        show own_Fin p e below s _ _ _ (T12.setTop (mkF m 111 #[.val (.int p1), .val (.int p2), .val (.int p3), .val (.int p4), .val (.int p5), .val (.int lg), .val (.int z0), .val (.int z1), .val (.int z2), .val (.ref b4), .val (.ref b4)] [(.ref b4), (.int z0)]))
        refine own_Fin.step (fun _ => XS.iconst X12.here hx rfl (hb hby at_111)) ?_
        show own_Fin p e below s _ _ _ (T12.setTop (mkF m 112 #[.val (.int p1), .val (.int p2), .val (.int p3), .val (.int p4), .val (.int p5), .val (.int lg), .val (.int z0), .val (.int z1), .val (.int z2), .val (.ref b4), .val (.ref b4)] [(.int (0 : Int32)), (.ref b4), (.int z0)]))
        refine own_Fin.step (own_ldI X12 hx hZ rfl V12 (j := (0 : Int32)) (v := (.int (own_mark lg z0))) ⟨by decide, by decide⟩ rfl (g := (mkF m 112 #[.val (.int p1), .val (.int p2), .val (.int p3), .val (.int p4), .val (.int p5), .val (.int lg), .val (.int z0), .val (.int z1), .val (.int z2), .val (.ref b4), .val (.ref b4)] [(.int (0 : Int32)), (.ref b4), (.int z0)])) rfl rfl (hb hby at_112)) ?_
        show own_Fin p e below s _ _ _ (T12.setTop (mkF m 113 #[.val (.int p1), .val (.int p2), .val (.int p3), .val (.int p4), .val (.int p5), .val (.int lg), .val (.int z0), .val (.int z1), .val (.int z2), .val (.ref b4), .val (.ref b4)] [(.int (own_mark lg z0)), (.int z0)]))
        refine own_Fin.step (fun _ => XS.iload X12.here hx rfl (hb hby at_113) rfl) ?_
        show own_Fin p e below s _ _ _ (T12.setTop (mkF m 115 #[.val (.int p1), .val (.int p2), .val (.int p3), .val (.int p4), .val (.int p5), .val (.int lg), .val (.int z0), .val (.int z1), .val (.int z2), .val (.ref b4), .val (.ref b4)] [(.int lg), (.int (own_mark lg z0)), (.int z0)]))
        obtain ⟨_, T14, L14, X14, ⟨rfl, N14q, e14⟩, st14⟩ := own_callS X12 hx hZ hown (own_w hw 12 rfl) (own_w hw 13 rfl) (own_w hw 3 rfl) (own_w hw 14 rfl) (by decide) (rm3 l Z a0 hw z0 (own_mark lg z0) lg T12.heap n0 Z12 (own_chk hlg hz0)) (by decide) (by decide) rfl (W := 0) (g := (mkF m 115 #[.val (.int p1), .val (.int p2), .val (.int p3), .val (.int p4), .val (.int p5), .val (.int lg), .val (.int z0), .val (.int z1), .val (.int z2), .val (.ref b4), .val (.ref b4)] [(.int lg), (.int (own_mark lg z0)), (.int z0)])) rfl (by rw [hml]; rfl) (argsL := [(.int z0), (.int (own_mark lg z0)), (.int lg)]) (rest := []) (lenOf pd_1 rfl) rfl rfl (by show 2 * 0 + _ ≤ _; exact Nat.le_of_eq rfl) (hb hby at_115) (by decide) (by decide)
        have N14 := Fr.app N12 N14q
        refine own_Fin.step st14 ?_
        show own_Fin p e below s _ _ _ (T14.setTop (mkF m 118 #[.val (.int p1), .val (.int p2), .val (.int p3), .val (.int p4), .val (.int p5), .val (.int lg), .val (.int z0), .val (.int z1), .val (.int z2), .val (.ref b4), .val (.ref b4)] [(.int (1 : Int32))]))
        refine own_Fin.step (fun _ => XS.ifNo X14.here hx rfl (hb hby at_118) rfl (XT.i0_eq_f (by decide : ¬ ((1 : Int32) = (0 : Int32))))) ?_
        show own_Fin p e below s _ _ _ (T14.setTop (mkF m 121 #[.val (.int p1), .val (.int p2), .val (.int p3), .val (.int p4), .val (.int p5), .val (.int lg), .val (.int z0), .val (.int z1), .val (.int z2), .val (.ref b4), .val (.ref b4)] []))
        refine own_Fin.step (fun _ => XS.iload X14.here hx rfl (hb hby at_121) rfl) ?_
        show own_Fin p e below s _ _ _ (T14.setTop (mkF m 123 #[.val (.int p1), .val (.int p2), .val (.int p3), .val (.int p4), .val (.int p5), .val (.int lg), .val (.int z0), .val (.int z1), .val (.int z2), .val (.ref b4), .val (.ref b4)] [(.int z1)]))
        refine own_Fin.step (fun _ => XS.aload X14.here hx rfl (hb hby at_123) rfl rfl) ?_
        show own_Fin p e below s _ _ _ (T14.setTop (mkF m 125 #[.val (.int p1), .val (.int p2), .val (.int p3), .val (.int p4), .val (.int p5), .val (.int lg), .val (.int z0), .val (.int z1), .val (.int z2), .val (.ref b4), .val (.ref b4)] [(.ref b4), (.int z1)]))
        refine own_Fin.step (fun _ => XS.iconst X14.here hx rfl (hb hby at_125)) ?_
        show own_Fin p e below s _ _ _ (T14.setTop (mkF m 126 #[.val (.int p1), .val (.int p2), .val (.int p3), .val (.int p4), .val (.int p5), .val (.int lg), .val (.int z0), .val (.int z1), .val (.int z2), .val (.ref b4), .val (.ref b4)] [(.int (1 : Int32)), (.ref b4), (.int z1)]))
        refine own_Fin.step (own_ldI X14 hx hZ e14 V12 (j := (1 : Int32)) (v := (.int (own_mark lg z1))) ⟨by decide, by decide⟩ rfl (g := (mkF m 126 #[.val (.int p1), .val (.int p2), .val (.int p3), .val (.int p4), .val (.int p5), .val (.int lg), .val (.int z0), .val (.int z1), .val (.int z2), .val (.ref b4), .val (.ref b4)] [(.int (1 : Int32)), (.ref b4), (.int z1)])) rfl rfl (hb hby at_126)) ?_
        show own_Fin p e below s _ _ _ (T14.setTop (mkF m 127 #[.val (.int p1), .val (.int p2), .val (.int p3), .val (.int p4), .val (.int p5), .val (.int lg), .val (.int z0), .val (.int z1), .val (.int z2), .val (.ref b4), .val (.ref b4)] [(.int (own_mark lg z1)), (.int z1)]))
        refine own_Fin.step (fun _ => XS.iload X14.here hx rfl (hb hby at_127) rfl) ?_
        show own_Fin p e below s _ _ _ (T14.setTop (mkF m 129 #[.val (.int p1), .val (.int p2), .val (.int p3), .val (.int p4), .val (.int p5), .val (.int lg), .val (.int z0), .val (.int z1), .val (.int z2), .val (.ref b4), .val (.ref b4)] [(.int lg), (.int (own_mark lg z1)), (.int z1)]))
        obtain ⟨_, T15, L15, X15, ⟨rfl, N15q, e15⟩, st15⟩ := own_callS X14 hx hZ hown (own_w hw 12 rfl) (own_w hw 13 rfl) (own_w hw 3 rfl) (own_w hw 14 rfl) (by decide) (rm3 l Z a0 hw z1 (own_mark lg z1) lg T12.heap n0 Z12 (own_chk hlg hz1)) (by decide) (by decide) e14 (W := 0) (g := (mkF m 129 #[.val (.int p1), .val (.int p2), .val (.int p3), .val (.int p4), .val (.int p5), .val (.int lg), .val (.int z0), .val (.int z1), .val (.int z2), .val (.ref b4), .val (.ref b4)] [(.int lg), (.int (own_mark lg z1)), (.int z1)])) rfl (by rw [hml]; rfl) (argsL := [(.int z1), (.int (own_mark lg z1)), (.int lg)]) (rest := []) (lenOf pd_1 rfl) rfl rfl (by show 2 * 0 + _ ≤ _; exact Nat.le_of_eq rfl) (hb hby at_129) (by decide) (by decide)
        have N15 := Fr.app N14 N15q
        refine own_Fin.step st15 ?_
        show own_Fin p e below s _ _ _ (T15.setTop (mkF m 132 #[.val (.int p1), .val (.int p2), .val (.int p3), .val (.int p4), .val (.int p5), .val (.int lg), .val (.int z0), .val (.int z1), .val (.int z2), .val (.ref b4), .val (.ref b4)] [(.int (1 : Int32))]))
        refine own_Fin.step (fun _ => XS.ifNo X15.here hx rfl (hb hby at_132) rfl (XT.i0_eq_f (by decide : ¬ ((1 : Int32) = (0 : Int32))))) ?_
        show own_Fin p e below s _ _ _ (T15.setTop (mkF m 135 #[.val (.int p1), .val (.int p2), .val (.int p3), .val (.int p4), .val (.int p5), .val (.int lg), .val (.int z0), .val (.int z1), .val (.int z2), .val (.ref b4), .val (.ref b4)] []))
        refine own_Fin.step (fun _ => XS.iload X15.here hx rfl (hb hby at_135) rfl) ?_
        show own_Fin p e below s _ _ _ (T15.setTop (mkF m 137 #[.val (.int p1), .val (.int p2), .val (.int p3), .val (.int p4), .val (.int p5), .val (.int lg), .val (.int z0), .val (.int z1), .val (.int z2), .val (.ref b4), .val (.ref b4)] [(.int z2)]))
        refine own_Fin.step (fun _ => XS.aload X15.here hx rfl (hb hby at_137) rfl rfl) ?_
        show own_Fin p e below s _ _ _ (T15.setTop (mkF m 139 #[.val (.int p1), .val (.int p2), .val (.int p3), .val (.int p4), .val (.int p5), .val (.int lg), .val (.int z0), .val (.int z1), .val (.int z2), .val (.ref b4), .val (.ref b4)] [(.ref b4), (.int z2)]))
        refine own_Fin.step (fun _ => XS.iconst X15.here hx rfl (hb hby at_139)) ?_
        show own_Fin p e below s _ _ _ (T15.setTop (mkF m 140 #[.val (.int p1), .val (.int p2), .val (.int p3), .val (.int p4), .val (.int p5), .val (.int lg), .val (.int z0), .val (.int z1), .val (.int z2), .val (.ref b4), .val (.ref b4)] [(.int (2 : Int32)), (.ref b4), (.int z2)]))
        refine own_Fin.step (own_ldI X15 hx hZ e15 V12 (j := (2 : Int32)) (v := (.int (own_mark lg z2))) ⟨by decide, by decide⟩ rfl (g := (mkF m 140 #[.val (.int p1), .val (.int p2), .val (.int p3), .val (.int p4), .val (.int p5), .val (.int lg), .val (.int z0), .val (.int z1), .val (.int z2), .val (.ref b4), .val (.ref b4)] [(.int (2 : Int32)), (.ref b4), (.int z2)])) rfl rfl (hb hby at_140)) ?_
        show own_Fin p e below s _ _ _ (T15.setTop (mkF m 141 #[.val (.int p1), .val (.int p2), .val (.int p3), .val (.int p4), .val (.int p5), .val (.int lg), .val (.int z0), .val (.int z1), .val (.int z2), .val (.ref b4), .val (.ref b4)] [(.int (own_mark lg z2)), (.int z2)]))
        refine own_Fin.step (fun _ => XS.iload X15.here hx rfl (hb hby at_141) rfl) ?_
        show own_Fin p e below s _ _ _ (T15.setTop (mkF m 143 #[.val (.int p1), .val (.int p2), .val (.int p3), .val (.int p4), .val (.int p5), .val (.int lg), .val (.int z0), .val (.int z1), .val (.int z2), .val (.ref b4), .val (.ref b4)] [(.int lg), (.int (own_mark lg z2)), (.int z2)]))
        obtain ⟨_, T16, L16, X16, ⟨rfl, N16q, e16⟩, st16⟩ := own_callS X15 hx hZ hown (own_w hw 12 rfl) (own_w hw 13 rfl) (own_w hw 3 rfl) (own_w hw 14 rfl) (by decide) (rm3 l Z a0 hw z2 (own_mark lg z2) lg T12.heap n0 Z12 (own_chk hlg hz2)) (by decide) (by decide) e15 (W := 0) (g := (mkF m 143 #[.val (.int p1), .val (.int p2), .val (.int p3), .val (.int p4), .val (.int p5), .val (.int lg), .val (.int z0), .val (.int z1), .val (.int z2), .val (.ref b4), .val (.ref b4)] [(.int lg), (.int (own_mark lg z2)), (.int z2)])) rfl (by rw [hml]; rfl) (argsL := [(.int z2), (.int (own_mark lg z2)), (.int lg)]) (rest := []) (lenOf pd_1 rfl) rfl rfl (by show 2 * 0 + _ ≤ _; exact Nat.le_of_eq rfl) (hb hby at_143) (by decide) (by decide)
        have N16 := Fr.app N15 N16q
        refine own_Fin.step st16 ?_
        show own_Fin p e below s _ _ _ (T16.setTop (mkF m 146 #[.val (.int p1), .val (.int p2), .val (.int p3), .val (.int p4), .val (.int p5), .val (.int lg), .val (.int z0), .val (.int z1), .val (.int z2), .val (.ref b4), .val (.ref b4)] [(.int (1 : Int32))]))
        refine own_Fin.step (fun _ => XS.ifNo X16.here hx rfl (hb hby at_146) rfl (XT.i0_eq_f (by decide : ¬ ((1 : Int32) = (0 : Int32))))) ?_
        show own_Fin p e below s _ _ _ (T16.setTop (mkF m 149 #[.val (.int p1), .val (.int p2), .val (.int p3), .val (.int p4), .val (.int p5), .val (.int lg), .val (.int z0), .val (.int z1), .val (.int z2), .val (.ref b4), .val (.ref b4)] []))
        refine own_Fin.step (fun _ => XS.iconst X16.here hx rfl (hb hby at_149)) ?_
        show own_Fin p e below s _ _ _ (T16.setTop (mkF m 150 #[.val (.int p1), .val (.int p2), .val (.int p3), .val (.int p4), .val (.int p5), .val (.int lg), .val (.int z0), .val (.int z1), .val (.int z2), .val (.ref b4), .val (.ref b4)] [(.int (1 : Int32))]))
        refine own_Fin.step (fun _ => XS.goto X16.here hx rfl (pc0 := 150) (pc' := 154) rfl (hb hby at_150) (by decide) (by decide)) ?_
        show own_Fin p e below s _ _ _ (T16.setTop (mkF m 154 #[.val (.int p1), .val (.int p2), .val (.int p3), .val (.int p4), .val (.int p5), .val (.int lg), .val (.int z0), .val (.int z1), .val (.int z2), .val (.ref b4), .val (.ref b4)] [(.int (1 : Int32))]))
        exact own_retN X16 hx hlk (t := .boolean) hret (by simp) (hb hby at_154) ⟨rfl, N16⟩ (by decide) (by decide)
      by_cases hc50_3 : (p5 &&& (4 : Int32)) = (0 : Int32)
      ·
        refine own_Fin.step (fun _ => XS.ifYes XJ1.here hx rfl (pc0 := 50) (pc' := 58) rfl (hb hby at_50) rfl (XT.i0_eq_t hc50_3) (by decide) (by decide)) ?_
        show own_Fin p e below s _ _ _ (TJ1.setTop (mkF m 58 #[.val (.int p1), .val (.int p2), .val (.int p3), .val (.int p4), .val (.int p5), .val (.int lg), .val (.int z0), .val (.int z1), .unset, .unset, .unset] []))
        refine own_Fin.step (fun _ => XS.iloadN XJ1.here hx rfl (hb hby at_58) rfl) ?_
        show own_Fin p e below s _ _ _ (TJ1.setTop (mkF m 59 #[.val (.int p1), .val (.int p2), .val (.int p3), .val (.int p4), .val (.int p5), .val (.int lg), .val (.int z0), .val (.int z1), .unset, .unset, .unset] [(.int p4)]))
        refine own_Fin.step (fun _ => XS.iload XJ1.here hx rfl (hb hby at_59) rfl) ?_
        show own_Fin p e below s _ _ _ (TJ1.setTop (mkF m 61 #[.val (.int p1), .val (.int p2), .val (.int p3), .val (.int p4), .val (.int p5), .val (.int lg), .val (.int z0), .val (.int z1), .unset, .unset, .unset] [(.int lg), (.int p4)]))
        obtain ⟨_, T17, L17, X17, ⟨rfl, N17q, e17⟩, st17⟩ := own_callS XJ1 hx hZ hown (own_w hw 1 rfl) (own_w hw 2 rfl) (own_w hw 3 rfl) (own_w hw 4 rfl) (by decide) (rm1 l Z a0 hw p4 lg h0 n0 Z0 hlg) (by decide) (by decide) eJ1 (W := 0) (g := (mkF m 61 #[.val (.int p1), .val (.int p2), .val (.int p3), .val (.int p4), .val (.int p5), .val (.int lg), .val (.int z0), .val (.int z1), .unset, .unset, .unset] [(.int lg), (.int p4)])) rfl (by rw [hml]; rfl) (argsL := [(.int p4), (.int lg)]) (rest := []) (lenOf pd_2 rfl) rfl rfl (by show 2 * 0 + _ ≤ _; exact Nat.le_of_eq rfl) (hb hby at_61) (by decide) (by decide)
        have N17 := Fr.app NJ1 N17q
        refine own_Fin.step st17 ?_
        exact j64 _ _ _ X17 N17 e17 (own_redin _ hlg)
      ·
        refine own_Fin.step (fun _ => XS.ifNo XJ1.here hx rfl (hb hby at_50) rfl (XT.i0_eq_f hc50_3)) ?_
        show own_Fin p e below s _ _ _ (TJ1.setTop (mkF m 53 #[.val (.int p1), .val (.int p2), .val (.int p3), .val (.int p4), .val (.int p5), .val (.int lg), .val (.int z0), .val (.int z1), .unset, .unset, .unset] []))
        refine own_Fin.step (fun _ => XS.iload XJ1.here hx rfl (hb hby at_53) rfl) ?_
        show own_Fin p e below s _ _ _ (TJ1.setTop (mkF m 55 #[.val (.int p1), .val (.int p2), .val (.int p3), .val (.int p4), .val (.int p5), .val (.int lg), .val (.int z0), .val (.int z1), .unset, .unset, .unset] [(.int lg)]))
        refine own_Fin.step (fun _ => XS.goto XJ1.here hx rfl (pc0 := 55) (pc' := 64) rfl (hb hby at_55) (by decide) (by decide)) ?_
        exact j64 _ _ _ XJ1 NJ1 eJ1 (own_self hlg)
    by_cases hc30_2 : (p5 &&& (2 : Int32)) = (0 : Int32)
    ·
      refine own_Fin.step (fun _ => XS.ifYes XJ0.here hx rfl (pc0 := 30) (pc' := 38) rfl (hb hby at_30) rfl (XT.i0_eq_t hc30_2) (by decide) (by decide)) ?_
      show own_Fin p e below s _ _ _ (TJ0.setTop (mkF m 38 #[.val (.int p1), .val (.int p2), .val (.int p3), .val (.int p4), .val (.int p5), .val (.int lg), .val (.int z0), .unset, .unset, .unset, .unset] []))
      refine own_Fin.step (fun _ => XS.iloadN XJ0.here hx rfl (hb hby at_38) rfl) ?_
      show own_Fin p e below s _ _ _ (TJ0.setTop (mkF m 39 #[.val (.int p1), .val (.int p2), .val (.int p3), .val (.int p4), .val (.int p5), .val (.int lg), .val (.int z0), .unset, .unset, .unset, .unset] [(.int p3)]))
      refine own_Fin.step (fun _ => XS.iload XJ0.here hx rfl (hb hby at_39) rfl) ?_
      show own_Fin p e below s _ _ _ (TJ0.setTop (mkF m 41 #[.val (.int p1), .val (.int p2), .val (.int p3), .val (.int p4), .val (.int p5), .val (.int lg), .val (.int z0), .unset, .unset, .unset, .unset] [(.int lg), (.int p3)]))
      obtain ⟨_, T18, L18, X18, ⟨rfl, N18q, e18⟩, st18⟩ := own_callS XJ0 hx hZ hown (own_w hw 1 rfl) (own_w hw 2 rfl) (own_w hw 3 rfl) (own_w hw 4 rfl) (by decide) (rm1 l Z a0 hw p3 lg h0 n0 Z0 hlg) (by decide) (by decide) eJ0 (W := 0) (g := (mkF m 41 #[.val (.int p1), .val (.int p2), .val (.int p3), .val (.int p4), .val (.int p5), .val (.int lg), .val (.int z0), .unset, .unset, .unset, .unset] [(.int lg), (.int p3)])) rfl (by rw [hml]; rfl) (argsL := [(.int p3), (.int lg)]) (rest := []) (lenOf pd_2 rfl) rfl rfl (by show 2 * 0 + _ ≤ _; exact Nat.le_of_eq rfl) (hb hby at_41) (by decide) (by decide)
      have N18 := Fr.app NJ0 N18q
      refine own_Fin.step st18 ?_
      exact j44 _ _ _ X18 N18 e18 (own_redin _ hlg)
    ·
      refine own_Fin.step (fun _ => XS.ifNo XJ0.here hx rfl (hb hby at_30) rfl (XT.i0_eq_f hc30_2)) ?_
      show own_Fin p e below s _ _ _ (TJ0.setTop (mkF m 33 #[.val (.int p1), .val (.int p2), .val (.int p3), .val (.int p4), .val (.int p5), .val (.int lg), .val (.int z0), .unset, .unset, .unset, .unset] []))
      refine own_Fin.step (fun _ => XS.iload XJ0.here hx rfl (hb hby at_33) rfl) ?_
      show own_Fin p e below s _ _ _ (TJ0.setTop (mkF m 35 #[.val (.int p1), .val (.int p2), .val (.int p3), .val (.int p4), .val (.int p5), .val (.int lg), .val (.int z0), .unset, .unset, .unset, .unset] [(.int lg)]))
      refine own_Fin.step (fun _ => XS.goto XJ0.here hx rfl (pc0 := 35) (pc' := 44) rfl (hb hby at_35) (by decide) (by decide)) ?_
      exact j44 _ _ _ XJ0 NJ0 eJ0 (own_self hlg)
  by_cases hc10_1 : (p5 &&& (1 : Int32)) = (0 : Int32)
  ·
    refine own_Fin.step (fun _ => XS.ifYes X0.here hx rfl (pc0 := 10) (pc' := 18) rfl (hb hby at_10) rfl (XT.i0_eq_t hc10_1) (by decide) (by decide)) ?_
    show own_Fin p e below s _ _ _ (s₁.setTop (mkF m 18 #[.val (.int p1), .val (.int p2), .val (.int p3), .val (.int p4), .val (.int p5), .val (.int lg), .unset, .unset, .unset, .unset, .unset] []))
    refine own_Fin.step (fun _ => XS.iloadN X0.here hx rfl (hb hby at_18) rfl) ?_
    show own_Fin p e below s _ _ _ (s₁.setTop (mkF m 19 #[.val (.int p1), .val (.int p2), .val (.int p3), .val (.int p4), .val (.int p5), .val (.int lg), .unset, .unset, .unset, .unset, .unset] [(.int p2)]))
    refine own_Fin.step (fun _ => XS.iload X0.here hx rfl (hb hby at_19) rfl) ?_
    show own_Fin p e below s _ _ _ (s₁.setTop (mkF m 21 #[.val (.int p1), .val (.int p2), .val (.int p3), .val (.int p4), .val (.int p5), .val (.int lg), .unset, .unset, .unset, .unset, .unset] [(.int lg), (.int p2)]))
    obtain ⟨_, T19, L19, X19, ⟨rfl, N19q, e19⟩, st19⟩ := own_callS X0 hx hZ hown (own_w hw 1 rfl) (own_w hw 2 rfl) (own_w hw 3 rfl) (own_w hw 4 rfl) (by decide) (rm1 l Z a0 hw p2 lg h0 n0 Z0 hlg) (by decide) (by decide) e0 (W := 0) (g := (mkF m 21 #[.val (.int p1), .val (.int p2), .val (.int p3), .val (.int p4), .val (.int p5), .val (.int lg), .unset, .unset, .unset, .unset, .unset] [(.int lg), (.int p2)])) rfl (by rw [hml]; rfl) (argsL := [(.int p2), (.int lg)]) (rest := []) (lenOf pd_2 rfl) rfl rfl (by show 2 * 0 + _ ≤ _; exact Nat.le_of_eq rfl) (hb hby at_21) (by decide) (by decide)
    have N19 := Fr.app N0 N19q
    refine own_Fin.step st19 ?_
    exact j24 _ _ _ X19 N19 e19 (own_redin _ hlg)
  ·
    refine own_Fin.step (fun _ => XS.ifNo X0.here hx rfl (hb hby at_10) rfl (XT.i0_eq_f hc10_1)) ?_
    show own_Fin p e below s _ _ _ (s₁.setTop (mkF m 13 #[.val (.int p1), .val (.int p2), .val (.int p3), .val (.int p4), .val (.int p5), .val (.int lg), .unset, .unset, .unset, .unset, .unset] []))
    refine own_Fin.step (fun _ => XS.iload X0.here hx rfl (hb hby at_13) rfl) ?_
    show own_Fin p e below s _ _ _ (s₁.setTop (mkF m 15 #[.val (.int p1), .val (.int p2), .val (.int p3), .val (.int p4), .val (.int p5), .val (.int lg), .unset, .unset, .unset, .unset, .unset] [(.int lg)]))
    refine own_Fin.step (fun _ => XS.goto X0.here hx rfl (pc0 := 15) (pc' := 24) rfl (hb hby at_15) (by decide) (by decide)) ?_
    exact j24 _ _ _ X0 N0 e0 (own_self hlg)
set_option maxRecDepth 65536 in
set_option maxHeartbeats 40000000 in
theorem comes_1 {Post : Tables → Env → Array Value → State → Outcome → State → Prop} (hpost : ∀ tb e args s v u, (limb_1_1.after args s (.returned v) u = true ∧ limb_1_2.after args s (.returned v) u = true ∧ True) → FrameEnd s (.returned v) u (Jvm.fieldLocs frame_1_writes args s ++ Jvm.arrayLocs frame_1_arrays args s ++ Jvm.staticLocs frame_1_statics s) 16 128 → Post tb e args s (.returned v) u) :
    ArmFor flags0 classFile x code maxLocals ret World_1 tables_1 room_1 Calls_1 rest_1 Pre_1 Post := by
  intro l hfl _ _ p e ha hc hk s m args below hf hA hF happ hP
  obtain ⟨hcalls, hrest, hpre⟩ := hP
  obtain ⟨-, -, -, hnamed, -, -, -, hat⟩ := (Spec.applies_iff hf).mp happ
  obtain ⟨hg, hn⟩ := and_e (Cond.before_iff.mp (show (Jvm.Cond.and given_1 narrow_1).before args s = true from hpre))
  obtain ⟨hcount, g0⟩ := and_e hg
  obtain ⟨a0, g1⟩ := and_e g0
  obtain ⟨a1, g2⟩ := and_e g1
  obtain ⟨a2, g3⟩ := and_e g2
  obtain ⟨a3, g4⟩ := and_e g3
  have a4 := g4
  obtain ⟨w0, w1, w2, w3, w4, rfl⟩ : ∃ w0 w1 w2 w3 w4 : Value, args = #[w0, w1, w2, w3, w4] := by
    have hs : args.size = 5 := by simpa [Cond.value, given_1] using hcount
    obtain ⟨L⟩ := args
    match L, hs with
    | [w0, w1, w2, w3, w4], _ => exact ⟨w0, w1, w2, w3, w4, rfl⟩
  have hw := fun d (hd : d ∈ tables_1) => atoms_spec (ws := Jvm.Cond.code x code maxLocals ret :: tables_1) hat d (List.mem_cons_of_mem _ hd)
  obtain ⟨i0, ei0⟩ := is_v a0
  obtain rfl : w0 = (.int i0) := Option.some.inj ei0
  obtain ⟨i1, ei1⟩ := is_v a1
  obtain rfl : w1 = (.int i1) := Option.some.inj ei1
  obtain ⟨i2, ei2⟩ := is_v a2
  obtain rfl : w2 = (.int i2) := Option.some.inj ei2
  obtain ⟨i3, ei3⟩ := is_v a3
  obtain rfl : w3 = (.int i3) := Option.some.inj ei3
  obtain ⟨i4, ei4⟩ := is_v a4
  obtain rfl : w4 = (.int i4) := Option.some.inj ei4
  obtain ⟨n, o, h1, h2, h3, _, L, rfl, ⟨rfl, N⟩, hq⟩ := rm0 l s _ hw i0 i1 i2 i3 i4 s.heap s.heap.size (Nat.le_refl _)  p e ha hc hk s m _ below hf ((Spec.applies_iff_loose hf).mp happ).1 ⟨rfl, State.Warmed39.refl s, rfl⟩ trivial
  refine ⟨n, _, h1, h2, h3, hpost _ _ _ _ _ _ ⟨Cond.after_iff.mpr rfl, Cond.after_iff.mpr (eq_i res_at (Term.int_eval (1)) rfl), trivial⟩ ⟨hq.1, hq.2.1, (hq.2.2.sift fun y hy => Or.inr (N y hy)).mono (by decide) (by decide)⟩⟩
theorem main_1_1 : Claimed_1_1 := comes_1 fun _ _ _ _ _ _ h hF => ⟨h.1, hF⟩
theorem main_1_2 : Claimed_1_2 := comes_1 fun _ _ _ _ _ _ h hF => ⟨h.2.1, hF⟩
end Jvm.Pilot.@@N@@
namespace Jvm.Pilot.@@N@@
open Jvm Jvm.ClassFile Sem Op Lib Jvm.Free Jvm.Stand Jvm.Pilot.@@N@@.Jvm.D
/-! MADE BY PROGRAM (witnessworld.py) out of the Statement's table words and the real class files: 9 classes; the members and pool entries that the words name. The judged class is class 1, her method 3. -/
namespace start1
open Jvm.ClassFile
def u (s : String) : CpInfo := .utf8 (stringToUtf16 s)
/-- a pool by its gaps: so many unusable entries, then the entry; so many at the end -/
def gap : Nat → List CpInfo → List CpInfo
  | 0, r => r
  | n + 1, r => .unusable :: gap n r
def poolList (es : List (Nat × CpInfo)) (last : Nat) : List CpInfo := es.foldr (fun e r => gap e.1 (e.2 :: r)) (gap last [])
def pool (es : List (Nat × CpInfo)) (last : Nat) : Array CpInfo := ⟨poolList es last⟩
def fileOf (pool : Array CpInfo) (this : Nat) (attrs : Array Attribute := #[]) (ms : Array MethodInfo := #[]) (fl : Nat := 33) (sup : Nat := 0) (ifs : Array Nat := #[]) (fds : Array FieldInfo := #[]) : ClassFile where
  minorVersion := 0
  majorVersion := 65
  constantPool := pool
  accessFlags := fl
  thisClass := this
  superClass := sup
  interfaces := ifs
  fields := fds
  methods := ms
  attributes := attrs
def plain (name : String) (sup : Option ClassId) : Class where
  name := name
  kind := .ordinary
  loader := none
  accessFlags := 33
  super := sup
  interfaces := #[]
  cf := none
  fields := #[]
  methods := #[]
  instanceTypes := #[]
  staticTypes := #[]
  resolved := #[]
  callSites := []
  init := .initialized
  statics := none
  mirror := none

def pool0 : Array CpInfo := pool [(5, u "<init>"), (0, u "()V"), (1, .class_ 10), (1, u "java/lang/Object")] 113

def k0m0 : Method := { name := "<init>", desc := "()V", sig := { parameters := [], returnType := none }, accessFlags := 1, code := none }
/-- java/lang/Object -/
def k0 : Class := { plain "java/lang/Object" none with
  accessFlags := 33
  interfaces := #[]
  cf := some (fileOf pool0 8 #[] #[{ accessFlags := 1, nameIndex := 5, descriptorIndex := 6, attributes := #[] }] 33 0 #[] #[])
  fields := #[]
  methods := #[k0m0]
  instanceTypes := #[]
  staticTypes := #[]
  resolved := Array.replicate 124 none
  statics := none }

def pool1 : Array CpInfo := pool [(2, .class_ 4), (1, u "java/lang/Object"), (0, u "<init>"), (0, u "()V"), (0, .long 2147483647), (3, .integer 2147483647), (0, .methodref 13 14), (0, .class_ 15), (0, .nameAndType 16 17), (0, u "com/example/needlewise/needlewise/ShiftsMarkLongestPinLaw"), (0, u "reduce"), (0, u "(II)I"), (0, .methodref 19 20), (0, .class_ 21), (0, .nameAndType 22 23), (0, u "com/example/needlewise/needlewise/Shifts"), (0, u "markLongest"), (0, u "([II)[I"), (0, .methodref 13 25), (0, .nameAndType 26 27), (0, u "check"), (0, u "(III)Z"), (3, u "law"), (0, u "(IIIII)Z")] 4

def k1m0 : Method := { name := "<init>", desc := "()V", sig := { parameters := [], returnType := none }, accessFlags := 2, code := none }
def k1c1 : Code := { maxStack := 6, maxLocals := 2, code := method_2_code, exceptionTable := #[], attributes := #[] }
def k1m1 : Method := { name := "reduce", desc := "(II)I", sig := { parameters := [.int, .int], returnType := some .int }, accessFlags := 10, code := some k1c1 }
def k1c2 : Code := { maxStack := 3, maxLocals := 5, code := method_3_code, exceptionTable := #[], attributes := #[] }
def k1m2 : Method := { name := "check", desc := "(III)Z", sig := { parameters := [.int, .int, .int], returnType := some .boolean }, accessFlags := 10, code := some k1c2 }
def k1c3 : Code := { maxStack := 3, maxLocals := 11, code := code, exceptionTable := #[], attributes := #[] }
def k1m3 : Method := { name := "law", desc := "(IIIII)Z", sig := { parameters := [.int, .int, .int, .int, .int], returnType := some .boolean }, accessFlags := 9, code := some k1c3 }
/-- com/example/needlewise/needlewise/ShiftsMarkLongestPinLaw -/
def k1 : Class := { plain "com/example/needlewise/needlewise/ShiftsMarkLongestPinLaw" (some 0) with
  accessFlags := 49
  interfaces := #[]
  cf := some (fileOf pool1 13 #[] #[{ accessFlags := 2, nameIndex := 5, descriptorIndex := 6, attributes := #[] }, { accessFlags := 10, nameIndex := 16, descriptorIndex := 17, attributes := #[] }, { accessFlags := 10, nameIndex := 26, descriptorIndex := 27, attributes := #[] }, { accessFlags := 9, nameIndex := 31, descriptorIndex := 32, attributes := #[] }] 49 2 #[] #[])
  fields := #[]
  methods := #[k1m0, k1m1, k1m2, k1m3]
  instanceTypes := #[]
  staticTypes := #[]
  resolved := Array.replicate 37 none
  statics := none }

def pool2 : Array CpInfo := pool [(2, .class_ 4), (1, u "java/lang/Object"), (0, u "<init>"), (0, u "()V"), (8, .integer 2147483648), (9, .class_ 26), (0, u "com/example/needlewise/needlewise/Shifts"), (7, u "markLongest"), (0, u "([II)[I")] 7

def k2m0 : Method := { name := "<init>", desc := "()V", sig := { parameters := [], returnType := none }, accessFlags := 2, code := none }
def k2c1 : Code := { maxStack := 4, maxLocals := 3, code := prog_24_method_3_code, exceptionTable := #[], attributes := #[] }
def k2m1 : Method := { name := "markLongest", desc := "([II)[I", sig := { parameters := [(.array .int), .int], returnType := some (.array .int) }, accessFlags := 8, code := some k2c1 }
/-- com/example/needlewise/needlewise/Shifts -/
def k2 : Class := { plain "com/example/needlewise/needlewise/Shifts" (some 0) with
  accessFlags := 48
  interfaces := #[]
  cf := some (fileOf pool2 25 #[] #[{ accessFlags := 2, nameIndex := 5, descriptorIndex := 6, attributes := #[] }, { accessFlags := 8, nameIndex := 34, descriptorIndex := 35, attributes := #[] }] 48 2 #[] #[])
  fields := #[]
  methods := #[k2m0, k2m1]
  instanceTypes := #[]
  staticTypes := #[]
  resolved := Array.replicate 43 none
  statics := none }

def pool3 : Array CpInfo := pool [(1, u "java/lang/Cloneable"), (0, .class_ 1), (0, u "java/lang/Object"), (0, .class_ 3)] 3

/-- java/lang/Cloneable -/
def k3 : Class := { plain "java/lang/Cloneable" (some 0) with
  accessFlags := 1537
  interfaces := #[]
  cf := some (fileOf pool3 2 #[] #[] 1537 4 #[] #[])
  fields := #[]
  methods := #[]
  instanceTypes := #[]
  staticTypes := #[]
  resolved := Array.replicate 8 none
  statics := none }

def pool4 : Array CpInfo := pool [(1, u "java/io/Serializable"), (0, .class_ 1), (0, u "java/lang/Object"), (0, .class_ 3)] 3

/-- java/io/Serializable -/
def k4 : Class := { plain "java/io/Serializable" (some 0) with
  accessFlags := 1537
  interfaces := #[]
  cf := some (fileOf pool4 2 #[] #[] 1537 4 #[] #[])
  fields := #[]
  methods := #[]
  instanceTypes := #[]
  staticTypes := #[]
  resolved := Array.replicate 8 none
  statics := none }

/-- the primitive byte -/
def k5 : Class := { plain "byte" none with kind := .primitive 'B', accessFlags := 0x411 }
/-- [B -/
def k6 : Class := { plain "[B" (some 0) with kind := .array 5 .byte, interfaces := #[3, 4], accessFlags := 1041 }

/-- the primitive int -/
def k7 : Class := { plain "int" none with kind := .primitive 'I', accessFlags := 0x411 }
/-- [I -/
def k8 : Class := { plain "[I" (some 0) with kind := .array 7 .int, interfaces := #[3, 4], accessFlags := 1041 }

def heap : Heap := #[]
def classes : Array Class := #[k0, k1, k2, k3, k4, k5, k6, k7, k8]
def interned : List (Array UInt16 × Addr) := []
def slotsUsed : Nat := 0
def theMethod : MethodId := ⟨1, 3⟩
def args0 : Array Value := #[.int 5, .int 44, .int 77, .int 1, .int 3]
def aboutOver (below : List Frame) : State where
  vm := { classes := classes, interned := interned.toArray }
  heap := heap
  slotsUsed := slotsUsed
  threads := #[{ frames := .invoking theMethod args0 :: below }]
def below0 : List Frame := [.native { method := ⟨0, 0⟩, args := #[] }]
def about1 : State := aboutOver below0
def p0 : Program := .bare "" "" ""
def e0 : Env := launch0.env 0 0 0
theorem w_frames : about1.frames = Frame.invoking theMethod args0 :: below0 := rfl
set_option maxRecDepth 65536 in
theorem w_args : argsFit about1.vm theMethod args0 = true := by decide +kernel
set_option maxRecDepth 65536 in
theorem w_heap : heapFits about1 = true := by decide +kernel
set_option maxRecDepth 65536 in
theorem w_runnable : about1.curStatus? = some .runnable := by decide +kernel
set_option maxRecDepth 65536 in
theorem w_alone : about1.alone = true := by decide +kernel
set_option maxRecDepth 65536 in
theorem w_named : about1.methodNamed? x = some theMethod := by decide +kernel
set_option maxRecDepth 65536 in
theorem w_hears : about1.hears theMethod below0 = true := by decide +kernel
set_option maxRecDepth 65536 in
theorem w_ripe : about1.ripe theMethod args0 below0 = true := by decide +kernel
theorem w_running : about1.status = .running := rfl
set_option maxRecDepth 65536 in
theorem w_room : about1.hasRoom e0.platform room_1 = true :=
  launch0.hasRoom_least _ room_1 (by decide +kernel) (by decide +kernel) (by decide +kernel) (by decide +kernel) (by decide +kernel) (by decide +kernel)
theorem allAtoms_all (ts : List Jvm.Cond) (a : Array Jvm.Value) (st : Jvm.State) : (allAtoms ts).before a st = ts.all (fun c => c.before a st) := by
  induction ts with
  | nil => rfl
  | cons c t ih =>
    show (Jvm.Cond.and c (allAtoms t)).before a st = _
    rw [Jvm.Cond.before_and, ih, List.all_cons]
def words1 : List Jvm.Cond := Jvm.Cond.code x code maxLocals ret :: tables_1
/-- a 'code' word, met by the world's own term for the bytes: nothing is compared byte by byte -/
theorem code_word {y : MethodName} {bytes : ByteArray} {mx : Nat} {rt : Option FieldType} {a : Array Value} {s : State} {m : MethodId} {meth : Method} {c : Code} (h1 : s.methodNamed? y = some m) (h2 : s.vm.method? m = some meth) (h3 : meth.code = some c) (h4 : c.code = bytes)
    (h5 : (c.maxLocals == mx && c.exceptionTable.isEmpty && decide (c.maxStack ≤ mostOperands) && decide (meth.sig.returnType = rt) && !meth.locks && decide (parseMethodDescriptor y.desc = some meth.sig)) = true) : (Jvm.Cond.code y bytes mx rt).before a s = true := by
  simp only [Bool.and_eq_true, beq_iff_eq, Bool.not_eq_true', decide_eq_true_eq] at h5
  obtain ⟨⟨⟨⟨⟨g1, g2⟩, g3⟩, g4⟩, g5⟩, g6⟩ := h5
  simp [Cond.before, Cond.holds, Cond.value, h1, h2, h3, h4, g1, g2, g3, g4, g5, g6]
def isCode : Jvm.Cond → Bool
  | .code _ _ _ _ => true
  | _ => false
theorem all_split {L : List Jvm.Cond} {P : Jvm.Cond → Bool} (h1 : L.all (fun c => isCode c || P c) = true) (h2 : ∀ c ∈ L.filter isCode, P c = true) : L.all P = true := by
  refine List.all_eq_true.mpr fun c hc => ?_
  have h := List.all_eq_true.mp h1 c hc
  rcases Bool.eq_false_or_eq_true (isCode c) with hi | hi
  · exact h2 c (List.mem_filter.mpr ⟨hc, hi⟩)
  · simpa [hi] using h
set_option maxRecDepth 65536 in
theorem w_c0 : (Jvm.Cond.code x code maxLocals ret).before args0 about1 = true := code_word (m := ⟨1, 3⟩) (meth := k1m3) (c := k1c3) (by decide +kernel) rfl rfl rfl (by decide +kernel)
set_option maxRecDepth 65536 in
theorem w_c1 : (Jvm.Cond.code ({ cls := "com/example/needlewise/needlewise/ShiftsMarkLongestPinLaw", name := "reduce", desc := "(II)I" } : Jvm.MethodName) method_2_code (2 : Nat) (Option.some Jvm.ClassFile.FieldType.int)).before args0 about1 = true := code_word (m := ⟨1, 1⟩) (meth := k1m1) (c := k1c1) (by decide +kernel) rfl rfl rfl (by decide +kernel)
set_option maxRecDepth 65536 in
theorem w_c2 : (Jvm.Cond.code ({ cls := "com/example/needlewise/needlewise/Shifts", name := "markLongest", desc := "([II)[I" } : Jvm.MethodName) prog_24_method_3_code (3 : Nat) (Option.some (Jvm.ClassFile.FieldType.array Jvm.ClassFile.FieldType.int))).before args0 about1 = true := code_word (m := ⟨2, 1⟩) (meth := k2m1) (c := k2c1) (by decide +kernel) rfl rfl rfl (by decide +kernel)
set_option maxRecDepth 65536 in
theorem w_c3 : (Jvm.Cond.code ({ cls := "com/example/needlewise/needlewise/ShiftsMarkLongestPinLaw", name := "check", desc := "(III)Z" } : Jvm.MethodName) method_3_code (5 : Nat) (Option.some Jvm.ClassFile.FieldType.boolean)).before args0 about1 = true := code_word (m := ⟨1, 2⟩) (meth := k1m2) (c := k1c2) (by decide +kernel) rfl rfl rfl (by decide +kernel)
def codes1 : List Jvm.Cond := [Jvm.Cond.code x code maxLocals ret, Jvm.Cond.code ({ cls := "com/example/needlewise/needlewise/ShiftsMarkLongestPinLaw", name := "reduce", desc := "(II)I" } : Jvm.MethodName) method_2_code (2 : Nat) (Option.some Jvm.ClassFile.FieldType.int), Jvm.Cond.code ({ cls := "com/example/needlewise/needlewise/Shifts", name := "markLongest", desc := "([II)[I" } : Jvm.MethodName) prog_24_method_3_code (3 : Nat) (Option.some (Jvm.ClassFile.FieldType.array Jvm.ClassFile.FieldType.int)), Jvm.Cond.code ({ cls := "com/example/needlewise/needlewise/ShiftsMarkLongestPinLaw", name := "check", desc := "(III)Z" } : Jvm.MethodName) method_3_code (5 : Nat) (Option.some Jvm.ClassFile.FieldType.boolean)]
set_option maxRecDepth 65536 in
theorem codes_eq : words1.filter isCode = codes1 := rfl
theorem w_codes : ∀ c ∈ words1.filter isCode, c.before args0 about1 = true := by
  rw [codes_eq]
  intro c hc
  simp only [codes1, List.mem_cons, List.not_mem_nil, or_false] at hc
  rcases hc with rfl | rfl | rfl | rfl
  · exact w_c0
  · exact w_c1
  · exact w_c2
  · exact w_c3
set_option maxRecDepth 65536 in
theorem w_t1 : words1.all (fun c => isCode c || c.before args0 about1) = true := by decide +kernel
theorem w_tables : (allAtoms (Jvm.Cond.code x code maxLocals ret :: tables_1)).before args0 about1 = true := by
  rw [allAtoms_all]
  show words1.all (fun c => c.before args0 about1) = true
  refine all_split ?_ w_codes
  rw [w_t1]
set_option maxRecDepth 65536 in
theorem w_case : (Jvm.Cond.and given_1 narrow_1).before args0 about1 = true := by decide +kernel
theorem w_applies : (headSpec (Jvm.Cond.code x code maxLocals ret :: tables_1) room_1).applies x e0.platform about1 = true :=
  (Spec.applies_iff w_frames).mpr ⟨w_running, w_runnable, w_alone, w_named, w_hears, w_ripe, w_room, w_tables⟩
theorem atStart : AtStart classFile x code maxLocals ret World_1 tables_1 room_1 Calls_1 rest_1 Pre_1 launch0 p0 e0 about1 theMethod args0 below0 :=
  ⟨lists_1, trivial, launch0.admits_env _ _ _, launch0.least_env, fairChoices_fair.cas, fairChoices_fair.clock, w_frames, w_args, w_heap, w_applies, trivial, trivial, w_case⟩
end start1
theorem witness_1 : WitnessClaimed_1 := ⟨start1.p0, start1.e0, start1.about1, start1.theMethod, start1.args0, start1.below0, start1.atStart⟩
end Jvm.Pilot.@@N@@
